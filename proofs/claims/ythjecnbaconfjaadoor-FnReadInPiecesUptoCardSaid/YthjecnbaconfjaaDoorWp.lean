/- impl.PlayStrings and impl.PlayBytes over a script of the calls that the three laws make: one answer for each call, each as the reader's offset says. Conditions: the script lies in memory as stated and its answers take at most 2^47 bytes. Printed by gen_wp.py. -/
import Derived.Test.YthjecnbaconfjaaDoorWd
namespace Go.Proofs.YthjecnbaconfjaaDoor
open Go.RowKit

theorem A.info28 : (Tryd.prog.info? 28).map (fun i => (i.zero, i.size, i.bytes)) = some (some (.agg #[.string ⟨#[]⟩, .int .i64 0, .int .i32 0, .int .i64 0]), 4, 40) := by kernel_rfl

/-- The answers of a script, and where the reader reads next behind it. -/
def answers (s : ByteArray) : Nat → List Cl → List An
  | _, [] => []
  | i, c :: r => stepA s i c :: answers s (stepI s i c) r
def idx (s : ByteArray) : Nat → List Cl → Nat
  | i, [] => i
  | i, c :: r => idx s (stepI s i c) r
theorem answers_snoc (s : ByteArray) : ∀ (l : List Cl) (i : Nat) (c : Cl), answers s i (l ++ [c]) = answers s i l ++ [stepA s (idx s i l) c]
  | [], _, _ => rfl
  | _ :: r, _, c => by simp only [List.cons_append, answers, idx, answers_snoc s r]
theorem idx_snoc (s : ByteArray) : ∀ (l : List Cl) (i : Nat) (c : Cl), idx s i (l ++ [c]) = stepI s (idx s i l) c
  | [], _, _ => rfl
  | _ :: r, _, c => by simp only [List.cons_append, idx, idx_snoc s r]
theorem answers_length (s : ByteArray) : ∀ (l : List Cl) (i : Nat), (answers s i l).length = l.length
  | [], _ => rfl
  | _ :: r, _ => by simp only [answers, List.length_cons, answers_length s r]
theorem idx_le (s : ByteArray) : ∀ (l : List Cl) (i : Nat), (∀ c ∈ l, okCl s c) → i ≤ s.size → idx s i l ≤ s.size
  | [], _, _, hi => hi
  | c :: r, i, h, hi => idx_le s r _ (fun x hx => h x (List.mem_cons_of_mem _ hx)) (stepI_le s i c (h c (List.mem_cons_self ..)) hi)

/-- A script in memory: five cells a call. -/
def Script (sb : Nat) (cs : List Cl) (w : World) : Prop := ∀ (j : Nat) (c : Cl), cs[j]? = some c →
  w.cell? ⟨sb, j * 5, none⟩ = some (.int .i64 c.op) ∧ w.cell? ⟨sb, j * 5 + 1, none⟩ = some (.int .i64 c.sz) ∧ w.cell? ⟨sb, j * 5 + 2, none⟩ = some (.int .i64 c.wh) ∧
    w.cell? ⟨sb, j * 5 + 3, none⟩ = some (.int .i64 c.off) ∧ w.cell? ⟨sb, j * 5 + 4, none⟩ = some (.string c.dt)
def ansVals (l : List An) : List Value := l.flatMap An.vals
theorem ansVals_length (l : List An) : (ansVals l).length = 4 * l.length := by
  induction l with
  | nil => rfl
  | cons a r ih => unfold ansVals at ih ⊢; rw [List.flatMap_cons, List.length_append, ih, List.length_cons]; simp [An.vals]; omega

/-- What the call owns stays owned while only the reader's block turns. -/
theorem own_keep {w w' : World} {rb : Nat} {e : TypeId} {size : Nat} {v : Value} {n : Nat} {xs : List Value} (h : w.ownsRow (rb + 1) e size v n xs) (hk : Keep rb w.heap.size w w') : w'.ownsRow (rb + 1) e size v n xs :=
  h.kept (row := some rb) ⟨hk.os, hk.tape, hk.output, hk.size, fun k h1 h2 => hk.block k h1 (fun e => h2 (by rw [e]))⟩ (by
    cases hb : v.ownBlock with
    | none => exact Or.inl rfl
    | some k => exact Or.inr (fun e => by have := (h.lt k hb).1; simp only [Option.some.injEq] at e; omega))
theorem own_ne {w : World} {rb : Nat} {e : TypeId} {size : Nat} {v : Value} {n : Nat} {xs : List Value} (h : w.ownsRow (rb + 1) e size v n xs) : ∀ k, v.ownBlock = some k → rb + 1 ≤ k := fun k hk => (h.lt k hk).1
/-- The cells of a block that was just laid. -/
theorem new_cells (w : World) (l : List Value) (t : TypeId) : ∀ (j : Nat) (u : Value), l[j]? = some u → (w.alloc (.cells l.toArray t)).cell? ((⟨w.heap.size, 0, none⟩ : Addr).add j) = some u := by
  intro j u hj
  have e : ((⟨w.heap.size, 0, none⟩ : Addr).add j) = ⟨w.heap.size, j, none⟩ := by unfold Addr.add; split <;> simp_all
  rw [e, cell_at (heap_alloc_new w _), List.getElem?_toArray]; exact hj
theorem ans_one (a : An) : ∀ u ∈ a.vals, u.oneCell' = true := by
  intro u hu
  simp only [An.vals, List.mem_cons, List.not_mem_nil, or_false] at hu
  rcases hu with rfl | rfl | rfl | rfl <;> rfl

/-- What holds at each round's head: k calls are made. -/
def PlayRel (t : TypeId) (rb : Nat) (S : Value) (s : ByteArray) (cs : List Cl) (W : World) (k : Nat) (v : Value) (wr : World) : Prop :=
  wr.ownsRow (rb + 1) 28 4 v k (ansVals (answers s 0 (cs.take k))) ∧ Rd t rb S (idx s 0 (cs.take k)) wr ∧ Below rb W wr
theorem take_snoc' {α : Type} (l : List α) (k : Nat) (c : α) (h : l[k]? = some c) : l.take (k + 1) = l.take k ++ [c] := by
  rw [List.take_add_one, h]; rfl
theorem play_next {t : TypeId} {rb : Nat} {S : Value} {s : ByteArray} {cs : List Cl} {W w2 w5 : World} {k : Nat} {v v' : Value} {c : Cl} {a : An} {o : Obj} (HCK : Hid (cs[k]? = some c)) (HA : Hid (stepA s (idx s 0 (cs.take k)) c = a))
    (HO : w5.ownsRow (rb + 1) 28 4 v' (k + 1) (ansVals (answers s 0 (cs.take k)) ++ a.vals)) (HR2 : Hid (Rd t rb S (stepI s (idx s 0 (cs.take k)) c) w2)) (hg : (w2.alloc o).grownBy w5 v.ownBlock) (HB2 : Hid (Below rb W w2))
    (hne : ∀ k, v.ownBlock = some k → rb + 1 ≤ k) : PlayRel t rb S s cs W (k + 1) v' w5 := by
  have lt := HR2.out.lt
  have e1 := take_snoc' cs k c HCK.out
  have hk : Keep rb (rb + 1) w2 w5 := ((Keep.refl rb (rb + 1) w2).alloc (by omega) o).grown hg (by simp; omega) hne
  refine ⟨?_, ?_, ?_⟩
  · rw [e1, answers_snoc, HA.out]
    unfold ansVals at HO ⊢
    rw [List.flatMap_append, List.flatMap_singleton]; exact HO
  · rw [e1, idx_snoc]
    refine HR2.out.of_heap ?_
    rw [hg.block rb (by simp; omega) (fun e => by have := hne rb e.symm; omega)]
    exact heap_alloc_old _ _ lt
  · exact HB2.out.trans ((hk.mono (by omega)).below (Nat.le_refl _))
theorem play_done {t : TypeId} {rb : Nat} {S : Value} {s : ByteArray} {cs : List Cl} {W w : World} {k : Nat} {v : Value} (HN : Hid (cs.length = k)) (h : PlayRel t rb S s cs W k v w) : w.ownsRow (rb + 1) 28 4 v k (ansVals (answers s 0 cs)) ∧ Below rb W w := by
  obtain ⟨h1, _, h3⟩ := h
  rw [List.take_of_length_le (Nat.le_of_eq HN.out)] at h1
  exact ⟨h1, h3⟩

theorem s_new (s : ByteArray) (W : World) : Calls Tryd.prog 13 #[.string s] W fun e w' => e = .returned (.pointer (some ⟨W.heap.size, 0, none⟩)) ∧ W.alloc (.cells #[.string s, .int .i64 0, .int .i64 (-1)] 46) = w' := by
  go_enter Tryd.func13, Tryd.ntmps13
  go_wp2
  go_ret
  exact ⟨rfl, rfl⟩

set_option maxHeartbeats 1000000 in
theorem s_play (sb scap : Nat) (s : ByteArray) (cs : List Cl) (n : Nat) (ea : Addr) (W : World) (hS : Script sb cs W) (hsb : sb < W.heap.size) (hE : Eof ea W) (h0 : 0 < W.heap.size) (hn : cs.length = n) (hn40 : n * 40 ≤ 140737488355328)
    (hl : s.size ≤ 140737488351232) (hc : ∀ c ∈ cs, okCl s c) :
    Calls Tryd.prog 9 #[.string s, .bool false, .slice (some ⟨sb, 0, none⟩) n scap] W fun e w' => ∃ v, e = .returned v ∧ w'.ownsRow (W.heap.size + 1) 28 4 v n (ansVals (answers s 0 cs)) ∧ Below W.heap.size W w' := by
  obtain ⟨i0, hi, hz0, hz1, hz2⟩ := info_parts A.info28
  have HI := Lib.hid hi
  have HZ0 := Lib.hid hz0
  have HZ1 := Lib.hid hz1
  have HZ2 := Lib.hid hz2
  have HS := Lib.hid hS
  have HE := Lib.hid hE
  have HN := Lib.hid hn
  have HC := Lib.hid hc
  clear hi hz0 hz1 hz2 hS hE hn hc
  go_enter Tryd.func9, Tryd.ntmps9
  go_wp2_with (go_at_call 13; refine (s_new s _).mono ?_; rintro e w' ⟨rfl, rfl⟩)
  go_loopw [8, 17] (fun v i wr => ∃ k : Nat, k ≤ n ∧ i = .int .i64 k ∧ PlayRel 46 W.heap.size (.string s) s cs W k v wr) (fun _ i _ => n - (intOf i).toNat)
  case atStart => exact ⟨0, Nat.zero_le _, rfl, World.ownsRow_nil _ _ _ _, ⟨-1, heap_alloc_new _ _⟩, (Below.refl _ _).alloc (Nat.le_refl _) _⟩
  case round =>
    obtain ⟨k, hk, rfl, hown, hR, hB⟩ := hrel
    by_cases hlt : k < n
    · obtain ⟨c, hck⟩ : ∃ c, cs[k]? = some c := ⟨_, List.getElem?_eq_getElem (by rw [HN.out]; exact hlt)⟩
      obtain ⟨g0, g1, g2, g3, g4⟩ := HS.out k c hck
      have hcc : okCl s c := HC.out c (List.mem_of_getElem? hck)
      have hcell := fun o => hB.cell (p := ⟨sb, o, none⟩) hsb
      have q0 := (hcell (k * 5)).trans g0
      have q1 := (hcell (k * 5 + 1)).trans g1
      have q2 := (hcell (k * 5 + 2)).trans g2
      have q3 := (hcell (k * 5 + 3)).trans g3
      have q4 := (hcell (k * 5 + 4)).trans g4
      have hop8 : (c.op == 8) = false := by
        obtain ⟨_, h | h | ⟨h, _⟩ | ⟨h, _⟩⟩ := hcc <;> rw [h] <;> rfl
      have HOwn := Lib.hid hown
      have HR := Lib.hid hR
      have HB := Lib.hid hB
      have HCC := Lib.hid hcc
      have HCK := Lib.hid hck
      have hsw : W.heap.size < wr.heap.size := hR.lt
      clear hown hR hB hcc hck hcell g0 g1 g2 g3 g4
      go_wp2_with fail
      refine (s_call W.heap.size s (idx s 0 (cs.take k)) c ea _ (HR.out.of_heap ?x1) ?x2 h0 hl (idx_le s _ 0 (fun x hx => HC.out x (List.mem_of_mem_take hx)) (Nat.zero_le _)) HCC.out).mono ?_
      case x1 => exact heap_alloc_old _ _ hsw
      
      case x2 => exact HE.out.kept (k := wr.heap.size) (B := W.heap.size) (Keep.of_below (HB.out.alloc (by omega) _)) (by omega) (by omega)
      rintro e w2 ⟨he, hR2, hk2⟩
      have ho2 := own_keep (HOwn.out.alloc _) hk2
      have HB2 : Hid (Below W.heap.size W w2) := (HB.out.alloc (by omega) _).trans ((hk2.mono (by simp; omega)).below (Nat.le_refl _))
      have hsw2 : W.heap.size < w2.heap.size := hR2.lt
      generalize hA : stepA s (idx s 0 (cs.take k)) c = A at he
      have HA := Lib.hid hA
      have HO2 := Lib.hid ho2
      have HR2 := Lib.hid hR2
      clear hk2 hR2 ho2 hA q0 q1 q2 q3 q4 hop8
      obtain ⟨ad, an, ar, ae⟩ := A
      simp only [An.vals] at he
      subst he
      have hnc := new_cells w2 [.string ⟨ad.toArray⟩, .int .i64 an, .int .i32 ar, .int .i64 (ae : Int)] 28
      have HNC := Lib.hid hnc
      have H1 := Lib.hid (ans_one ⟨ad, an, ar, ae⟩)
      clear hnc
      go_wp2_with (at_builtin; refine wpList_append_own _ rfl (.tmp 28) (.tmp 33) 22 rfl (W.heap.size + 1) 28 i0 (.agg #[.string ⟨#[]⟩, .int .i64 0, .int .i32 0, .int .i64 0]) 4 40 Tryd.underlying22 HI.out HZ0.out HZ1.out HZ2.out rfl (by decide) u8 k _ rfl (HO2.out.alloc _) ⟨w2.heap.size, 0, none⟩ 1 1 [.string ⟨ad.toArray⟩, .int .i64 an, .int .i32 ar, .int .i64 (ae : Int)] rfl rfl HNC.out H1.out (by unfold maxLen; omega) (by omega) (by simp; omega) ?_; intro v' w5 hown' hgrow _)
      exact ⟨⟨k + 1, by omega, by go_num, play_next HCK HA hown' HR2 hgrow HB2 (own_ne HO2.out)⟩, by simp [intOf]; omega⟩
    · obtain rfl : k = n := by omega
      have HD := Lib.hid (play_done HN ⟨hown, hR, hB⟩)
      clear hown hR hB
      go_wp2
      go_ret
      exact ⟨_, rfl, HD.out⟩

theorem b_new (db cap : Nat) (s : ByteArray) (W : World) : Calls Tryd.prog 10 #[.slice (some ⟨db, 0, none⟩) s.size cap] W fun e w' => e = .returned (.pointer (some ⟨W.heap.size, 0, none⟩)) ∧ W.alloc (.cells #[.slice (some ⟨db, 0, none⟩) s.size cap, .int .i64 0, .int .i64 (-1)] 40) = w' := by
  go_enter Tryd.func10, Tryd.ntmps10
  go_wp2
  go_ret
  exact ⟨rfl, rfl⟩

set_option maxHeartbeats 1000000 in
theorem b_play (db cap sb scap : Nat) (s : ByteArray) (cs : List Cl) (n : Nat) (ea : Addr) (W : World) (hD : Bytes db cap s W) (hdb : db < W.heap.size) (hS : Script sb cs W) (hsb : sb < W.heap.size) (hE : Eof ea W) (h0 : 0 < W.heap.size) (hn : cs.length = n) (hn40 : n * 40 ≤ 140737488355328)
    (hl : s.size ≤ 140737488351232) (hc : ∀ c ∈ cs, okCl s c) :
    Calls Tryd.prog 8 #[.slice (some ⟨db, 0, none⟩) s.size cap, .bool false, .slice (some ⟨sb, 0, none⟩) n scap] W fun e w' => ∃ v, e = .returned v ∧ w'.ownsRow (W.heap.size + 1) 28 4 v n (ansVals (answers s 0 cs)) ∧ Below W.heap.size W w' := by
  obtain ⟨i0, hi, hz0, hz1, hz2⟩ := info_parts A.info28
  have HI := Lib.hid hi
  have HZ0 := Lib.hid hz0
  have HZ1 := Lib.hid hz1
  have HZ2 := Lib.hid hz2
  have HS := Lib.hid hS
  have HE := Lib.hid hE
  have HN := Lib.hid hn
  have HC := Lib.hid hc
  clear hi hz0 hz1 hz2 hS hE hn hc
  go_enter Tryd.func8, Tryd.ntmps8
  go_wp2_with (go_at_call 10; refine (b_new db cap s _).mono ?_; rintro e w' ⟨rfl, rfl⟩)
  go_loopw [8, 17] (fun v i wr => ∃ k : Nat, k ≤ n ∧ i = .int .i64 k ∧ PlayRel 40 W.heap.size (.slice (some ⟨db, 0, none⟩) s.size cap) s cs W k v wr) (fun _ i _ => n - (intOf i).toNat)
  case atStart => exact ⟨0, Nat.zero_le _, rfl, World.ownsRow_nil _ _ _ _, ⟨-1, heap_alloc_new _ _⟩, (Below.refl _ _).alloc (Nat.le_refl _) _⟩
  case round =>
    obtain ⟨k, hk, rfl, hown, hR, hB⟩ := hrel
    by_cases hlt : k < n
    · obtain ⟨c, hck⟩ : ∃ c, cs[k]? = some c := ⟨_, List.getElem?_eq_getElem (by rw [HN.out]; exact hlt)⟩
      obtain ⟨g0, g1, g2, g3, g4⟩ := HS.out k c hck
      have hcc : okCl s c := HC.out c (List.mem_of_getElem? hck)
      have hcell := fun o => hB.cell (p := ⟨sb, o, none⟩) hsb
      have q0 := (hcell (k * 5)).trans g0
      have q1 := (hcell (k * 5 + 1)).trans g1
      have q2 := (hcell (k * 5 + 2)).trans g2
      have q3 := (hcell (k * 5 + 3)).trans g3
      have q4 := (hcell (k * 5 + 4)).trans g4
      have hop8 : (c.op == 8) = false := by
        obtain ⟨_, h | h | ⟨h, _⟩ | ⟨h, _⟩⟩ := hcc <;> rw [h] <;> rfl
      have HOwn := Lib.hid hown
      have HR := Lib.hid hR
      have HB := Lib.hid hB
      have HCC := Lib.hid hcc
      have HCK := Lib.hid hck
      have hsw : W.heap.size < wr.heap.size := hR.lt
      clear hown hR hB hcc hck hcell g0 g1 g2 g3 g4
      go_wp2_with fail
      refine (b_call W.heap.size db cap s (idx s 0 (cs.take k)) c ea _ (HR.out.of_heap ?x1) (?x3) (by simp; omega) (by omega) ?x2 h0 hl (idx_le s _ 0 (fun x hx => HC.out x (List.mem_of_mem_take hx)) (Nat.zero_le _)) HCC.out).mono ?_
      case x1 => exact heap_alloc_old _ _ hsw
      case x3 => exact hD.kept (k := wr.heap.size) (B := W.heap.size) (Keep.of_below (HB.out.alloc (by omega) _)) hdb (by omega)
      case x2 => exact HE.out.kept (k := wr.heap.size) (B := W.heap.size) (Keep.of_below (HB.out.alloc (by omega) _)) (by omega) (by omega)
      rintro e w2 ⟨he, hR2, hk2⟩
      have ho2 := own_keep (HOwn.out.alloc _) hk2
      have HB2 : Hid (Below W.heap.size W w2) := (HB.out.alloc (by omega) _).trans ((hk2.mono (by simp; omega)).below (Nat.le_refl _))
      have hsw2 : W.heap.size < w2.heap.size := hR2.lt
      generalize hA : stepA s (idx s 0 (cs.take k)) c = A at he
      have HA := Lib.hid hA
      have HO2 := Lib.hid ho2
      have HR2 := Lib.hid hR2
      clear hk2 hR2 ho2 hA q0 q1 q2 q3 q4 hop8
      obtain ⟨ad, an, ar, ae⟩ := A
      simp only [An.vals] at he
      subst he
      have hnc := new_cells w2 [.string ⟨ad.toArray⟩, .int .i64 an, .int .i32 ar, .int .i64 (ae : Int)] 28
      have HNC := Lib.hid hnc
      have H1 := Lib.hid (ans_one ⟨ad, an, ar, ae⟩)
      clear hnc
      go_wp2_with (at_builtin; refine wpList_append_own _ rfl (.tmp 29) (.tmp 34) 22 rfl (W.heap.size + 1) 28 i0 (.agg #[.string ⟨#[]⟩, .int .i64 0, .int .i32 0, .int .i64 0]) 4 40 Tryd.underlying22 HI.out HZ0.out HZ1.out HZ2.out rfl (by decide) u8 k _ rfl (HO2.out.alloc _) ⟨w2.heap.size, 0, none⟩ 1 1 [.string ⟨ad.toArray⟩, .int .i64 an, .int .i32 ar, .int .i64 (ae : Int)] rfl rfl HNC.out H1.out (by unfold maxLen; omega) (by omega) (by simp; omega) ?_; intro v' w5 hown' hgrow _)
      exact ⟨⟨k + 1, by omega, by go_num, play_next HCK HA hown' HR2 hgrow HB2 (own_ne HO2.out)⟩, by simp [intOf]; omega⟩
    · obtain rfl : k = n := by omega
      have HD := Lib.hid (play_done HN ⟨hown, hR, hB⟩)
      clear hown hR hB
      go_wp2
      go_ret
      exact ⟨_, rfl, HD.out⟩
end Go.Proofs.YthjecnbaconfjaaDoor
