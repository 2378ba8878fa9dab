/- laws.FnReadOneByOne: its script, and what the walk comes to. -/
import Derived.Test.YthjecnbaconfjaaDoorLa
namespace Go.Proofs.YthjecnbaconfjaaDoor
open Go.RowKit

theorem A.info25 : (Tryd.prog.info? 25).map (fun i => (i.zero, i.size, i.bytes)) = some (some (.agg #[.int .i64 0, .int .i64 0, .int .i64 0, .int .i64 0, .string ⟨#[]⟩]), 5, 48) := by kernel_rfl

def cb : Cl := ⟨2, 0, 0, 0, ⟨#[]⟩⟩
/-- What holds at each round's head of the first loop: k calls are ReadByte, the others still zero. -/
def MarkRel (sb n : Nat) (W : World) (k : Nat) (wr : World) : Prop :=
  (∀ j, j < n → wr.cell? ⟨sb, j * 5, none⟩ = some (.int .i64 (if j < k then 2 else 0)) ∧ wr.cell? ⟨sb, j * 5 + 1, none⟩ = some (.int .i64 0) ∧ wr.cell? ⟨sb, j * 5 + 2, none⟩ = some (.int .i64 0) ∧
    wr.cell? ⟨sb, j * 5 + 3, none⟩ = some (.int .i64 0) ∧ wr.cell? ⟨sb, j * 5 + 4, none⟩ = some (.string ⟨#[]⟩)) ∧ (∀ j, wr.frozen? ⟨sb, j, none⟩ = false) ∧ Below sb W wr ∧ sb < wr.heap.size

theorem made_get (n j : Nat) (h : j < n) (z : Array Value) : (madeCells z n).toList[j]? = some (z[j % z.size]!) := by
  unfold madeCells
  rw [Array.getElem?_toList, Array.getElem?_map, Array.getElem?_range, if_pos h]; rfl
theorem mark_start {W w1 : World} {n : Nat} (h : w1.ownsRow W.heap.size 25 5 (.slice (some ⟨W.heap.size, 0, none⟩) n n) n (madeCells (Value.agg #[.int .i64 0, .int .i64 0, .int .i64 0, .int .i64 0, .string ⟨#[]⟩]).cells (n * 5)).toList)
    (hg : W.grownBy w1 none) : MarkRel W.heap.size n W 0 w1 := by
  have hc := fun j (hj : j < n * 5) => (h.cellAt j hj).trans (made_get (n * 5) j hj _)
  have hlt : W.heap.size < w1.heap.size := (h.lt _ rfl).2
  refine ⟨fun j hj => ?_, fun j => h.frozenAt j, below_of_grown hg, hlt⟩
  have e : ∀ f, f < 5 → (j * 5 + f) % 5 = f := fun f hf => by omega
  have e0 : (j * 5) % 5 = 0 := by omega
  refine ⟨?_, ?_, ?_, ?_, ?_⟩
  · rw [hc (j * 5) (by omega)]; show some (#[_, _, _, _, _][j * 5 % 5]!) = _; rw [e0]; rfl
  · rw [hc (j * 5 + 1) (by omega)]; show some (#[_, _, _, _, _][(j * 5 + 1) % 5]!) = _; rw [e 1 (by omega)]; rfl
  · rw [hc (j * 5 + 2) (by omega)]; show some (#[_, _, _, _, _][(j * 5 + 2) % 5]!) = _; rw [e 2 (by omega)]; rfl
  · rw [hc (j * 5 + 3) (by omega)]; show some (#[_, _, _, _, _][(j * 5 + 3) % 5]!) = _; rw [e 3 (by omega)]; rfl
  · rw [hc (j * 5 + 4) (by omega)]; show some (#[_, _, _, _, _][(j * 5 + 4) % 5]!) = _; rw [e 4 (by omega)]; rfl
theorem mark_next {W wr : World} {sb n k : Nat} (hk : k < n) (h : Hid (MarkRel sb n W k wr)) : MarkRel sb n W (k + 1) (wr.setCell ⟨sb, k * 5, none⟩ (.int .i64 2)) := by
  obtain ⟨h1, h2, h3, h4⟩ := h.out
  have ho : ∀ o, o ≠ k * 5 → (wr.setCell ⟨sb, k * 5, none⟩ (.int .i64 2)).cell? ⟨sb, o, none⟩ = wr.cell? ⟨sb, o, none⟩ := fun o hne =>
    World.cell?_setCell_other _ _ _ _ (fun e => hne (by simpa using (congrArg Addr.off e).symm))
  refine ⟨fun j hj => ?_, fun j => by rw [World.frozen?_setCell]; exact h2 j, h3.setCell (Nat.le_refl _) _, by rw [World.size_setCell]; exact h4⟩
  obtain ⟨g0, g1, g2, g3, g4⟩ := h1 j hj
  refine ⟨?_, by rw [ho _ (by omega)]; exact g1, by rw [ho _ (by omega)]; exact g2, by rw [ho _ (by omega)]; exact g3, by rw [ho _ (by omega)]; exact g4⟩
  by_cases hjk : j = k
  · subst hjk
    rw [World.cell?_setCell_same _ _ _ g0, if_pos (by omega)]
  · rw [ho _ (by omega), g0]
    by_cases hlt : j < k
    · rw [if_pos hlt, if_pos (by omega)]
    · rw [if_neg hlt, if_neg (by omega)]
theorem mark_done {W wr : World} {sb n : Nat} (h : MarkRel sb n W n wr) : Script sb (List.replicate n cb) wr := by
  intro j c hj
  rw [List.getElem?_replicate] at hj
  split at hj
  · next hlt =>
    obtain rfl := Option.some.inj hj
    obtain ⟨g0, g⟩ := h.1 j hlt
    rw [if_pos hlt] at g0
    exact ⟨g0, g⟩
  · cases hj

theorem answers_get (s : ByteArray) : ∀ (l : List Cl) (i j : Nat) (c : Cl), l[j]? = some c → (answers s i l)[j]? = some (stepA s (idx s i (l.take j)) c)
  | [], _, _, _, h => by simp at h
  | x :: r, i, 0, c, h => by simp at h; subst h; rfl
  | x :: r, i, j + 1, c, h => by
    simp only [List.getElem?_cons_succ] at h
    simp only [answers, List.getElem?_cons_succ, List.take_succ_cons, idx]
    exact answers_get s r _ j c h
theorem ansVals_get (f : Nat) (hf : f < 4) : ∀ (l : List An) (j : Nat) (a : An), l[j]? = some a → (ansVals l)[j * 4 + f]? = a.vals[f]?
  | [], _, _, h => by simp at h
  | x :: r, 0, a, h => by
    simp at h; subst h
    unfold ansVals
    rw [List.flatMap_cons, List.getElem?_append_left (by simp [An.vals]; omega), Nat.zero_mul, Nat.zero_add]
  | x :: r, j + 1, a, h => by
    simp only [List.getElem?_cons_succ] at h
    have ih := ansVals_get f hf r j a h
    unfold ansVals at ih ⊢
    have e : (j + 1) * 4 + f = 4 + (j * 4 + f) := by omega
    have el : x.vals.length = 4 := rfl
    rw [List.flatMap_cons, e, List.getElem?_append_right (by rw [el]; omega), el, Nat.add_sub_cancel_left]; exact ih
/-- The cells of one answer. -/
theorem ans_cells {w : World} {base n g cap : Nat} {v : Value} {l : List An} (h : w.ownsRow base 28 4 v n (ansVals l)) (hv : v = .slice (some ⟨g, 0, none⟩) n cap) (j : Nat) (hj : j < n) (a : An) (ha : l[j]? = some a) :
    w.cell? ⟨g, j * 4, none⟩ = some (.string ⟨a.d.toArray⟩) ∧ w.cell? ⟨g, j * 4 + 1, none⟩ = some (.int .i64 a.n) ∧ w.cell? ⟨g, j * 4 + 2, none⟩ = some (.int .i32 a.r) ∧ w.cell? ⟨g, j * 4 + 3, none⟩ = some (.int .i64 (a.e : Int)) := by
  subst hv
  have hc := fun f (hf : f < 4) => (h.cellAt (j * 4 + f) (by omega)).trans (ansVals_get f hf l j a ha)
  exact ⟨hc 0 (by omega), hc 1 (by omega), hc 2 (by omega), hc 3 (by omega)⟩

theorem idx_bytes (s : ByteArray) : ∀ (j i : Nat), i ≤ s.size → idx s i (List.replicate j cb) = min (i + j) s.size
  | 0, i, h => by simp only [List.replicate_zero, idx]; omega
  | j + 1, i, h => by
    have e : stepI s i cb = i + if i < s.size then 1 else 0 := rfl
    simp only [List.replicate_succ, idx]
    rw [idx_bytes s j _ (by rw [e]; split <;> omega), e]
    split <;> omega
theorem byte_ans (s : ByteArray) (n j : Nat) (hj : j < n) : (answers s 0 (List.replicate n cb))[j]? = some (if j < s.size then ⟨cut s j 1, 0, 0, 0⟩ else ⟨[], 0, 0, 1⟩) := by
  rw [answers_get s _ 0 j cb (by rw [List.getElem?_replicate, if_pos hj]), List.take_replicate, Nat.min_eq_left (Nat.le_of_lt hj), idx_bytes s j 0 (Nat.zero_le _), Nat.zero_add]
  have e : ∀ i, stepA s i cb = ⟨cut s i (if i < s.size then 1 else 0), 0, 0, if i < s.size then 0 else 1⟩ := fun _ => rfl
  rw [e]
  by_cases h : j < s.size
  · rw [Nat.min_eq_left (by omega), if_pos h, if_pos h, if_pos h]
  · rw [Nat.min_eq_right (by omega), if_neg (by omega), if_neg (by omega), if_neg h, cut_zero]

theorem str_ext {u s : ByteArray} (h : u.data.toList = s.data.toList) : u = s := by
  cases u; cases s; simp only at h; congr 1; exact Array.toList_inj.1 h
theorem app_data (u : ByteArray) (l : List UInt8) : (u ++ (⟨l.toArray⟩ : ByteArray)).data.toList = u.data.toList ++ l := by
  simp [ByteArray.data_append]

theorem app_hid {u : ByteArray} {l a b : List UInt8} (h : Hid (u.data.toList = a)) (hn : Hid (b = a ++ l)) : Hid ((u ++ (⟨l.toArray⟩ : ByteArray)).data.toList = b) := by
  show _ = _
  rw [app_data, h.out, hn.out]

theorem law5_walk (b : Bool) (s : ByteArray) (ea : Addr) (W : World) (hE : Eof ea W) (h0 : 0 < W.heap.size) (hl : s.size ≤ 1048576) :
    Calls Tryd.prog 5 #[.bool b, .string s] W fun e w' => e = .returned (.bool true) ∧ Below W.heap.size W w' := by
  obtain ⟨i0, hi, hz0, hz1, hz2⟩ := info_parts A.info25
  have HI := Lib.hid hi
  have HZ0 := Lib.hid hz0
  have HZ1 := Lib.hid hz1
  have hby : i0.bytes * (s.size + 2) ≤ 281474976710656 := by rw [hz2]; omega
  have HE := Lib.hid hE
  clear hi hz0 hz1 hz2 hE
  go_enter Tryd.func5, Tryd.ntmps5
  go_wp2_with (at_make; refine wpList_make_full _ rfl (.tmp 13) (.tmp 13) 26 rfl W.heap.size 25 i0 (.agg #[.int .i64 0, .int .i64 0, .int .i64 0, .int .i64 0, .string ⟨#[]⟩]) 5 Tryd.underlying26 HI.out HZ0.out HZ1.out .i64 .i64 _ _ (s.size + 2) rfl rfl (by go_num) (by go_num) hby (by unfold maxLen; omega) (Nat.le_refl _) ?_; intro w1 ho1 hg1)
  go_loopw [6, 17] (fun _ i wr => ∃ k : Nat, k ≤ s.size + 2 ∧ i = .int .i64 k ∧ MarkRel W.heap.size (s.size + 2) W k wr) (fun _ i _ => s.size + 2 - (intOf i).toNat)
  case atStart => exact ⟨0, Nat.zero_le _, rfl, mark_start ho1 hg1⟩
  case round =>
    obtain ⟨k, hk, rfl, hM⟩ := hrel
    by_cases hlt : k < s.size + 2
    · have c0 := (hM.1 k hlt).1
      rw [if_neg (by omega)] at c0
      have f0 := hM.2.1 (k * 5)
      have HM := Lib.hid hM
      clear hM ho1 hg1
      go_wp2
      exact ⟨⟨k + 1, by omega, by go_num, mark_next hlt HM⟩, by simp [intOf]; omega⟩
    · obtain rfl : k = s.size + 2 := by omega
      have HM := Lib.hid hM
      have hbr := hM.2.2.1
      have hzr := hM.2.2.2
      have HBr := Lib.hid hbr
      clear hM ho1 hg1 hbr hlt hk
      go_wp2_with fail
      refine (play_any b W.heap.size (s.size + 2) s (List.replicate (s.size + 2) cb) (s.size + 2) ea wr (mark_done HM.out) hzr ((HBr.out.cell (p := ⟨0, 0, none⟩) h0).trans HE.out) (by omega) (by rw [List.length_replicate]) (by omega) (by omega) (fun c hc => by obtain rfl := List.eq_of_mem_replicate hc; exact ⟨⟨by show (-9223372036854775808 : Int) ≤ 0; omega, by show (0 : Int) ≤ 9223372036854775807; omega⟩, Or.inr (Or.inl rfl)⟩)).mono ?_
      rintro e w2 ⟨v, rfl, hown, hb2⟩
      obtain ⟨g, cap, rfl, hg, hgl, _⟩ := own_cells hown (by omega)
      have HO := Lib.hid hown
      have HB2 : Hid (Below W.heap.size W w2) := HBr.out.trans (hb2.mono (by omega))
      clear hown hb2 HM
      go_wp2_with fail
      go_loopw [8, 36] (fun v i wl => ∃ (k : Nat) (u : ByteArray), k ≤ s.size + 2 ∧ i = .int .i64 k ∧ v = .string u ∧ Hid (u.data.toList = s.data.toList.take k) ∧ Hid (Below w2.heap.size w2 wl)) (fun _ i _ => s.size + 2 - (intOf i).toNat)
      case atStart => exact ⟨0, ⟨#[]⟩, Nat.zero_le _, rfl, rfl, rfl, Below.refl _ _⟩
      case round =>
        obtain ⟨k, u, hk, rfl, rfl, HU, HBl⟩ := hrel
        have husz : u.size ≤ s.size := by
          have h1 := congrArg List.length HU.out
          rw [len_eq, List.length_take, len_eq] at h1; omega
        by_cases hlt : k < s.size + 2
        · have hba := byte_ans s (s.size + 2) k hlt
          by_cases hks : k < s.size
          · rw [if_pos hks, cut_one s k hks] at hba
            obtain ⟨q0, q1, q2, q3⟩ := ans_cells HO.out rfl k hlt _ hba
            have p0 := (HBl.out.cell (p := ⟨g, k * 4, none⟩) hgl).trans q0
            have p1 := (HBl.out.cell (p := ⟨g, k * 4 + 1, none⟩) hgl).trans q1
            have p2 := (HBl.out.cell (p := ⟨g, k * 4 + 2, none⟩) hgl).trans q2
            have p3 := (HBl.out.cell (p := ⟨g, k * 4 + 3, none⟩) hgl).trans q3
            have HN : Hid (s.data.toList.take (k + 1) = s.data.toList.take k ++ [s.data.toList.getD k 0]) := by
              show _ = _
              rw [List.take_succ_eq_append_getElem (by rw [len_eq]; exact hks), List.getD_eq_getElem?_getD, List.getElem?_eq_getElem (by rw [len_eq]; exact hks)]; rfl
            generalize s.data.toList.getD k 0 = x at *
            simp only [Int.natCast_zero] at p3
            clear hba q0 q1 q2 q3
            go_wp2
            exact ⟨⟨k + 1, u ++ ⟨[x].toArray⟩, by omega, by go_num, rfl, app_hid (l := [x]) HU HN, HBl.out.alloc HBl.out.size _⟩, by simp [intOf]; omega⟩
          · rw [if_neg hks] at hba
            obtain ⟨q0, q1, q2, q3⟩ := ans_cells HO.out rfl k hlt _ hba
            have p0 : wr.cell? ⟨g, k * 4, none⟩ = some (.string ⟨#[]⟩) := (HBl.out.cell (p := ⟨g, k * 4, none⟩) hgl).trans q0
            have p1 := (HBl.out.cell (p := ⟨g, k * 4 + 1, none⟩) hgl).trans q1
            have p2 := (HBl.out.cell (p := ⟨g, k * 4 + 2, none⟩) hgl).trans q2
            have p3 : wr.cell? ⟨g, k * 4 + 3, none⟩ = some (.int .i64 1) := (HBl.out.cell (p := ⟨g, k * 4 + 3, none⟩) hgl).trans q3
            have HN : Hid (s.data.toList.take (k + 1) = s.data.toList.take k ++ []) := by
              show _ = _
              rw [List.append_nil, List.take_of_length_le (by rw [len_eq]; omega), List.take_of_length_le (by rw [len_eq]; omega)]
            have hks2 : s.size ≤ k := by omega
            clear hba q0 q1 q2 q3 hks
            go_wp2
            exact ⟨⟨k + 1, u ++ ⟨[].toArray⟩, by omega, by go_num, rfl, app_hid (l := []) HU HN, HBl.out.alloc HBl.out.size _⟩, by simp [intOf]; omega⟩
        · obtain rfl : k = s.size + 2 := by omega
          obtain rfl : u = s := str_ext (HU.out.trans (List.take_of_length_le (by rw [len_eq]; omega)))
          have HEnd : Hid (Below W.heap.size W wr) := HB2.out.trans (HBl.out.mono HB2.out.size)
          clear hlt hk husz HU
          go_wp2
          go_ret
          exact ⟨rfl, HEnd.out⟩
end Go.Proofs.YthjecnbaconfjaaDoor
