/- laws.FnReadInPieces: its script, and what the walk comes to. -/
import Derived.Test.YthjecnbaconfjaaDoorLo
namespace Go.Proofs.YthjecnbaconfjaaDoor
open Go.RowKit

/-- The size that 'sized' makes. -/
def szd (n : Int) : Int := n.tmod 4096 % 4096 + 1
theorem szd_le (n : Int) : 1 ≤ szd n ∧ szd n ≤ 4096 := by unfold szd; omega
theorem sized_any (n : Int) (W : World) : Calls Tryd.prog 7 #[.int .i64 n] W fun e w' => e = .returned (.int .i64 (szd n)) ∧ W = w' := by
  have h1 := Int.tmod_lt_of_pos n (show (0 : Int) < 4096 by omega)
  have h2 := Int.lt_tmod_of_pos n (show (0 : Int) < 4096 by omega)
  go_enter Tryd.func7, Tryd.ntmps7
  go_wp2
  go_ret
  exact ⟨rfl, rfl⟩

def cr (z : Int) : Cl := ⟨0, z, 0, 0, ⟨#[]⟩⟩
def clVals (l : List Cl) : List Value := l.flatMap Cl.vals

/-- What holds at each round's head of the loops that make the script. -/
def MakeRel (W : World) (cs : List Cl) (v : Value) (wr : World) : Prop := wr.ownsRow W.heap.size 25 5 v cs.length (clVals cs) ∧ Below W.heap.size W wr

/-- The sizes that came in. -/
def IsRow (w : World) (a : Option Addr) (len : Nat) (zs : List Int) : Prop :=
  (len = 0 ∧ zs = []) ∨ ∃ x off, a = some ⟨x, off, none⟩ ∧ zs.length = len ∧ x < w.heap.size ∧ ∀ i, i < len → w.cell? ⟨x, off + i, none⟩ = some (.int .i64 (zs.getD i 0))

theorem clVals_snoc (l : List Cl) (c : Cl) : clVals (l ++ [c]) = clVals l ++ c.vals := by unfold clVals; rw [List.flatMap_append, List.flatMap_singleton]
theorem cl_one (c : Cl) : ∀ u ∈ c.vals, u.oneCell' = true := by
  intro u hu
  simp only [Cl.vals, List.mem_cons, List.not_mem_nil, or_false] at hu
  rcases hu with rfl | rfl | rfl | rfl | rfl <;> rfl
theorem make_next {W wr w5 : World} {cs : List Cl} {c : Cl} {v v' : Value} {o : Obj} {n : Nat} (hn : cs.length = n) (HM : Hid (MakeRel W cs v wr)) (HO : w5.ownsRow W.heap.size 25 5 v' (n + 1) (clVals cs ++ c.vals)) (hg : (wr.alloc o).grownBy w5 v.ownBlock) : MakeRel W (cs ++ [c]) v' w5 := by
  obtain ⟨h1, h2⟩ := HM.out
  have hne : ∀ k, v.ownBlock = some k → W.heap.size ≤ k := fun k hk => (h1.lt k hk).1
  refine ⟨?_, ?_⟩
  · rw [clVals_snoc, List.length_append, hn]; exact HO
  · exact (h2.alloc h2.size _).grown hg (by have := h2.size; simp; omega) hne
theorem map_take_snoc (zs : List Int) (k : Nat) (h : k < zs.length) : (zs.take (k + 1)).map (fun z => cr (szd z)) = (zs.take k).map (fun z => cr (szd z)) ++ [cr (szd (zs.getD k 0))] := by
  rw [List.take_succ_eq_append_getElem h, List.map_append, List.getD_eq_getElem?_getD, List.getElem?_eq_getElem h]; rfl

theorem clVals_get (f : Nat) (hf : f < 5) : ∀ (l : List Cl) (j : Nat) (a : Cl), l[j]? = some a → (clVals l)[j * 5 + f]? = a.vals[f]?
  | [], _, _, h => by simp at h
  | x :: r, 0, a, h => by
    simp at h; subst h
    unfold clVals
    rw [List.flatMap_cons, List.getElem?_append_left (by simp [Cl.vals]; omega), Nat.zero_mul, Nat.zero_add]
  | x :: r, j + 1, a, h => by
    simp only [List.getElem?_cons_succ] at h
    have ih := clVals_get f hf r j a h
    unfold clVals at ih ⊢
    have e : (j + 1) * 5 + f = 5 + (j * 5 + f) := by omega
    have el : x.vals.length = 5 := rfl
    rw [List.flatMap_cons, e, List.getElem?_append_right (by rw [el]; omega), el, Nat.add_sub_cancel_left]; exact ih
/-- A script that was made by append. -/
theorem script_of {W w : World} {cs : List Cl} {v : Value} (h : MakeRel W cs v w) (hn : 0 < cs.length) :
    ∃ sb cap, v = .slice (some ⟨sb, 0, none⟩) cs.length cap ∧ W.heap.size ≤ sb ∧ sb < w.heap.size ∧ Script sb cs w := by
  obtain ⟨h, _⟩ := h
  have h' := h
  obtain ⟨_, h | ⟨g, cap, cur, hv, hg, hh, _⟩⟩ := h
  · omega
  · subst hv
    refine ⟨g, cap, rfl, hg, lt_of_heap hh, fun j c hj => ?_⟩
    have hlt : j < cs.length := (List.getElem?_eq_some_iff.1 hj).1
    have hc := fun f (hf : f < 5) => (h'.cellAt (j * 5 + f) (by omega)).trans (clVals_get f hf cs j c hj)
    exact ⟨hc 0 (by omega), hc 1 (by omega), hc 2 (by omega), hc 3 (by omega), hc 4 (by omega)⟩

/-- A script of reads, each of 1 to 4096 bytes. -/
def Reads (F : List Cl) : Prop := ∀ c ∈ F, ∃ z : Int, c = cr z ∧ 1 ≤ z ∧ z ≤ 4096
theorem clamp_in (z : Int) (h1 : 1 ≤ z) (h2 : z ≤ 4096) : ((clamp z : Nat) : Int) = z := by have := clamp_cast z; omega
theorem idx_append (s : ByteArray) : ∀ (a b : List Cl) (i : Nat), idx s i (a ++ b) = idx s (idx s i a) b
  | [], _, _ => rfl
  | _ :: r, b, _ => by simp only [List.cons_append, idx, idx_append s r]
theorem stepI_read (s : ByteArray) (i : Nat) (z : Int) : stepI s i (cr z) = i + got s i (clamp z) := rfl
theorem stepA_read (s : ByteArray) (i : Nat) (z : Int) : stepA s i (cr z) = ⟨cut s i (got s i (clamp z)), (got s i (clamp z) : Nat), 0, if i < s.size then 0 else 1⟩ := rfl
theorem idx_full (s : ByteArray) : ∀ (m i : Nat), i ≤ s.size → idx s i (List.replicate m (cr 4096)) = min (i + m * 4096) s.size
  | 0, i, h => by simp only [List.replicate_zero, idx]; omega
  | m + 1, i, h => by
    have hc : clamp 4096 = 4096 := by decide
    have g := got_le s i 4096 h
    simp only [List.replicate_succ, idx]
    rw [stepI_read, hc, idx_full s m _ g.1]
    unfold got
    split <;> omega
theorem reads_ok {s : ByteArray} {F : List Cl} (h : Reads F) : ∀ c ∈ F, okCl s c := by
  intro c hc
  obtain ⟨z, rfl, h1, h2⟩ := h c hc
  exact ⟨⟨by show (-9223372036854775808 : Int) ≤ z; omega, by show z ≤ (9223372036854775807 : Int); omega⟩, Or.inl rfl⟩
/-- One read of the script: what it gets, and where the reader is behind it. -/
theorem read_at (s : ByteArray) (F : List Cl) (h : Reads F) (k : Nat) (hk : k < F.length) :
    ∃ (z : Int) (d : List UInt8) (e : Nat), F[k]? = some (cr z) ∧ (answers s 0 F)[k]? = some ⟨d, d.length, 0, e⟩ ∧ (d.length : Int) ≤ z ∧ s.data.toList.take (idx s 0 (F.take (k + 1))) = s.data.toList.take (idx s 0 (F.take k)) ++ d ∧
      ((d.isEmpty = false ∧ idx s 0 (F.take k) < s.size) ∨ (d = [] ∧ e = 1 ∧ idx s 0 (F.take k) = s.size)) := by
  obtain ⟨c, hc⟩ : ∃ c, F[k]? = some c := ⟨_, List.getElem?_eq_getElem hk⟩
  obtain ⟨z, rfl, z1, z2⟩ := h c (List.mem_of_getElem? hc)
  have hP : idx s 0 (F.take k) ≤ s.size := idx_le s _ 0 (fun x hx => reads_ok h x (List.mem_of_mem_take hx)) (Nat.zero_le _)
  have ha := answers_get s F 0 k _ hc
  have hi : idx s 0 (F.take (k + 1)) = idx s 0 (F.take k) + got s (idx s 0 (F.take k)) (clamp z) := by rw [take_snoc' F k _ hc, idx_snoc, stepI_read]
  rw [stepA_read] at ha
  generalize idx s 0 (F.take k) = P at *
  have hg := got_le s P (clamp z) hP
  have hcl := clamp_in z z1 z2
  have hlen := cut_length s P (got s P (clamp z)) hg.1
  refine ⟨z, cut s P (got s P (clamp z)), if P < s.size then 0 else 1, hc, ?_, by rw [hlen]; omega, ?_, ?_⟩
  · rw [ha, hlen]
  · rw [hi, List.take_add]; rfl
  · by_cases hlt : P < s.size
    · left
      refine ⟨?_, hlt⟩
      have hpos : 0 < got s P (clamp z) := by unfold got; rw [if_pos hlt]; omega
      cases hcut : cut s P (got s P (clamp z)) with
      | nil => rw [hcut] at hlen; simp at hlen; omega
      | cons x r => rfl
    · right
      have h0 : got s P (clamp z) = 0 := by unfold got; rw [if_neg hlt]
      exact ⟨by rw [h0, cut_zero], by rw [if_neg hlt], by omega⟩
theorem reads_end (s : ByteArray) (cs : List Cl) (h : Reads cs) : idx s 0 (cs ++ List.replicate (s.size / 4096 + 2) (cr 4096)) = s.size := by
  rw [idx_append, idx_full s _ _ (idx_le s _ 0 (reads_ok h) (Nat.zero_le _))]; omega
theorem reads_made (zs : List Int) : Reads (zs.map fun z => cr (szd z)) := by
  intro c hc
  obtain ⟨z, _, rfl⟩ := List.mem_map.1 hc
  exact ⟨_, rfl, (szd_le z).1, (szd_le z).2⟩
theorem reads_all {cs : List Cl} (h : Reads cs) (m : Nat) : Reads (cs ++ List.replicate m (cr 4096)) := by
  intro c hc
  rcases List.mem_append.1 hc with hc | hc
  · exact h c hc
  · exact ⟨4096, List.eq_of_mem_replicate hc, by omega, by omega⟩

theorem below_dn {B : Nat} {w w' : World} (h : Below B w w') (n : Nat) : Below B w (w'.drewN n) := ⟨h.os, h.tape, h.output, h.size, h.block⟩

set_option maxHeartbeats 1000000 in
theorem law4_walk (b : Bool) (s : ByteArray) (a : Option Addr) (len cap : Nat) (zs : List Int) (ea : Addr) (W : World) (hE : Eof ea W) (h0 : 0 < W.heap.size) (hl : s.size ≤ 1048576) (hlen : len ≤ 1048576) (hZ : IsRow W a len zs) :
    Calls Tryd.prog 4 #[.bool b, .string s, .slice a len cap] W fun e w' => e = .returned (.bool true) ∧ Below W.heap.size W w' := by
  obtain ⟨i0, hi, hz0, hz1, hz2⟩ := info_parts A.info25
  have HI := Lib.hid hi
  have HZ0 := Lib.hid hz0
  have HZ1 := Lib.hid hz1
  have HZ2 := Lib.hid hz2
  have HE := Lib.hid hE
  have HZs := Lib.hid hZ
  clear hi hz0 hz1 hz2 hE hZ
  go_enter Tryd.func4, Tryd.ntmps4
  go_wp2_with fail
  go_loopw [7, 16] (fun v i wr => ∃ k : Nat, k ≤ len ∧ i = .int .i64 k ∧ MakeRel W ((zs.take k).map fun z => cr (szd z)) v wr) (fun _ i _ => len - (intOf i).toNat)
  case atStart => exact ⟨0, Nat.zero_le _, rfl, World.ownsRow_nil _ _ _ _, Below.refl _ _⟩
  case round =>
    obtain ⟨k, hk, rfl, hM⟩ := hrel
    by_cases hlt : k < len
    · obtain ⟨x, off, rfl, hz, hx, hc⟩ : ∃ x off, a = some ⟨x, off, none⟩ ∧ zs.length = len ∧ x < W.heap.size ∧ ∀ i, i < len → W.cell? ⟨x, off + i, none⟩ = some (.int .i64 (zs.getD i 0)) := by
        rcases HZs.out with ⟨h, _⟩ | h
        · omega
        · exact h
      have c0 := (hM.2.cell (p := ⟨x, off + k, none⟩) hx).trans (hc k hlt)
      have HX := Lib.hid (map_take_snoc zs k (by omega))
      have hln : ((zs.take k).map fun z => cr (szd z)).length = k := by rw [List.length_map, List.length_take]; omega
      have HLN := Lib.hid hln
      have HM := Lib.hid hM
      have hsw : W.heap.size ≤ wr.heap.size := hM.2.size
      have HOwn : Hid (wr.ownsRow W.heap.size 25 5 u7 k (clVals ((zs.take k).map fun z => cr (szd z)))) := by have := hM.1; rw [hln] at this; exact this
      clear hM hc hz hln
      generalize zs.getD k 0 = z at *
      have hnc := new_cells wr [.int .i64 0, .int .i64 (szd z), .int .i64 0, .int .i64 0, .string ⟨#[]⟩] 25
      have HNC := Lib.hid hnc
      have H1 := Lib.hid (cl_one (cr (szd z)))
      clear hnc
      go_wp2_with (first | (go_at_call 7; refine (sized_any _ _).mono ?_; rintro e w' ⟨rfl, rfl⟩) | (at_builtin; refine wpList_append_own _ rfl (.tmp 20) (.tmp 24) 26 rfl W.heap.size 25 i0 (.agg #[.int .i64 0, .int .i64 0, .int .i64 0, .int .i64 0, .string ⟨#[]⟩]) 5 48 Tryd.underlying26 HI.out HZ0.out HZ1.out HZ2.out rfl (by decide) u7 k _ rfl (HOwn.out.alloc _) ⟨wr.heap.size, 0, none⟩ 1 1 [.int .i64 0, .int .i64 (szd z), .int .i64 0, .int .i64 0, .string ⟨#[]⟩] rfl rfl HNC.out H1.out (by unfold maxLen; omega) (by omega) (by simp; omega) ?_; intro v' w5 hown' hgrow _))
      exact ⟨⟨k + 1, by omega, by go_num, by rw [HX.out]; exact make_next HLN.out HM hown' hgrow⟩, by simp [intOf]; omega⟩
    · obtain rfl : k = len := by omega
      have hln : ((zs.take k).map fun z => cr (szd z)).length = k := by
        rcases HZs.out with ⟨h, h3⟩ | ⟨x, off, _, hz, _⟩
        · rw [h3, h]; rfl
        · rw [List.length_map, List.length_take]; omega
      have hM2 : MakeRel W (((zs.take k).map fun z => cr (szd z)) ++ List.replicate 0 (cr 4096)) u7 wr := by rw [List.replicate_zero, List.append_nil]; exact hM
      generalize hcs : ((zs.take k).map fun z => cr (szd z)) = cs at *
      have HCS := Lib.hid hcs
      have HLN := Lib.hid hln
      have HM2 := Lib.hid hM2
      clear hM hcs hln hM2 hlt hk
      go_wp2_with fail
      go_loopw [7, 31] (fun v i wm => ∃ m : Nat, m ≤ s.size / 4096 + 2 ∧ i = .int .i64 m ∧ MakeRel W (cs ++ List.replicate m (cr 4096)) v wm) (fun _ i _ => s.size / 4096 + 2 - (intOf i).toNat)
      case atStart => exact ⟨0, Nat.zero_le _, rfl, HM2.out⟩
      case round =>
        obtain ⟨m, hm, rfl, hM⟩ := hrel
        have hln2 : (cs ++ List.replicate m (cr 4096)).length = k + m := by rw [List.length_append, List.length_replicate, HLN.out]
        by_cases hmt : m < s.size / 4096 + 2
        · have HX : Hid (cs ++ List.replicate (m + 1) (cr 4096) = cs ++ List.replicate m (cr 4096) ++ [cr 4096]) := by show _ = _; rw [List.replicate_succ', List.append_assoc]
          have HL2 := Lib.hid hln2
          have HM := Lib.hid hM
          have hsw : W.heap.size ≤ wr.heap.size := hM.2.size
          have HOwn : Hid (wr.ownsRow W.heap.size 25 5 u7 (k + m) (clVals (cs ++ List.replicate m (cr 4096)))) := by have := hM.1; rw [hln2] at this; exact this
          have hnc := new_cells wr [.int .i64 0, .int .i64 4096, .int .i64 0, .int .i64 0, .string ⟨#[]⟩] 25
          have HNC := Lib.hid hnc
          have H1 := Lib.hid (cl_one (cr 4096))
          have hmi : (m : Int) < (s.size : Int) / 4096 + 2 := by omega
          clear hM hln2 hnc
          go_wp2_with (at_builtin; refine wpList_append_own _ rfl (.tmp 33) (.tmp 35) 26 rfl W.heap.size 25 i0 (.agg #[.int .i64 0, .int .i64 0, .int .i64 0, .int .i64 0, .string ⟨#[]⟩]) 5 48 Tryd.underlying26 HI.out HZ0.out HZ1.out HZ2.out rfl (by decide) u7 (k + m) _ rfl (HOwn.out.alloc _) ⟨wr.heap.size, 0, none⟩ 1 1 [.int .i64 0, .int .i64 4096, .int .i64 0, .int .i64 0, .string ⟨#[]⟩] rfl rfl HNC.out H1.out (by unfold maxLen; omega) (by omega) (by simp; omega) ?_; intro v' w5 hown' hgrow _)
          exact ⟨⟨m + 1, by omega, by go_num, by rw [HX.out]; exact make_next HL2.out HM hown' hgrow⟩, by simp [intOf]; omega⟩
        · obtain rfl : m = s.size / 4096 + 2 := by omega
          obtain ⟨sb, scap, rfl, hsb1, hsb2, hS⟩ := script_of hM (by rw [hln2]; omega)
          have HBm := Lib.hid hM.2
          have hRd : Reads (cs ++ List.replicate (s.size / 4096 + 2) (cr 4096)) := reads_all (by rw [← HCS.out]; exact reads_made _) _
          have hEnd : idx s 0 (cs ++ List.replicate (s.size / 4096 + 2) (cr 4096)) = s.size := reads_end s cs (by rw [← HCS.out]; exact reads_made _)
          have hn2 : (cs ++ List.replicate (s.size / 4096 + 2) (cr 4096)).length ≤ 2000000 := by rw [hln2]; omega
          have hn1 : 0 < (cs ++ List.replicate (s.size / 4096 + 2) (cr 4096)).length := by rw [hln2]; omega
          clear hM hln2
          generalize cs ++ List.replicate (s.size / 4096 + 2) (cr 4096) = F at *
          generalize hFn : F.length = n at *
          have HFn := Lib.hid hFn
          have HS := Lib.hid hS
          have HRd := Lib.hid hRd
          have HEnd := Lib.hid hEnd
          have hmi : ¬ ((s.size / 4096 + 2 : Nat) : Int) < (s.size : Int) / 4096 + 2 := by omega
          clear hS hmt hm hFn hRd hEnd HM2 HCS
          go_wp2_with fail
          refine (play_any b sb scap s F n ea wr HS.out hsb2 ((HBm.out.cell (p := ⟨0, 0, none⟩) h0).trans HE.out) (by omega) HFn.out (by omega) (by omega) (reads_ok HRd.out)).mono ?_
          rintro e w2 ⟨v, rfl, hown, hb2⟩
          obtain ⟨g, gcap, rfl, hg, hgl, _⟩ := own_cells hown (by omega)
          have HO := Lib.hid hown
          have hs2 : sb < w2.heap.size := by have := hb2.size; omega
          have HS2 : Hid (Script sb F w2) := fun j c hj => by
            obtain ⟨g0, g1, g2, g3, g4⟩ := HS.out j c hj
            exact ⟨(hb2.cell (p := ⟨sb, _, none⟩) hsb2).trans g0, (hb2.cell (p := ⟨sb, _, none⟩) hsb2).trans g1, (hb2.cell (p := ⟨sb, _, none⟩) hsb2).trans g2, (hb2.cell (p := ⟨sb, _, none⟩) hsb2).trans g3, (hb2.cell (p := ⟨sb, _, none⟩) hsb2).trans g4⟩
          have HB2 : Hid (Below W.heap.size W w2) := HBm.out.trans (hb2.mono HBm.out.size)
          clear hown hb2 HS
          go_wp2_with fail
          go_loopw [11, 44] (fun v i wl => ∃ (j : Nat) (u : ByteArray), j ≤ n ∧ i = .int .i64 j ∧ v = .string u ∧ Hid (u.data.toList = s.data.toList.take (idx s 0 (F.take j))) ∧ Hid (Below w2.heap.size w2 wl)) (fun _ i _ => n - (intOf i).toNat)
          case atStart => exact ⟨0, ⟨#[]⟩, Nat.zero_le _, rfl, rfl, rfl, Below.refl _ _⟩
          case round =>
            obtain ⟨j, u, hj, rfl, rfl, HU, HBl⟩ := hrel
            have husz : u.size ≤ s.size := by
              have h1 := congrArg List.length HU.out
              rw [len_eq, List.length_take, len_eq] at h1; omega
            by_cases hjt : j < n
            · obtain ⟨z, d, e, hFj, hAj, hdz, htk, hcase⟩ := read_at s F HRd.out j (by rw [HFn.out]; exact hjt)
              obtain ⟨q0, q1, q2, q3⟩ := ans_cells HO.out rfl j hjt _ hAj
              have p0 : wr.cell? ⟨g, j * 4, none⟩ = some (.string ⟨d.toArray⟩) := (HBl.out.cell (p := ⟨g, j * 4, none⟩) hgl).trans q0
              have p1 : wr.cell? ⟨g, j * 4 + 1, none⟩ = some (.int .i64 (d.length : Int)) := (HBl.out.cell (p := ⟨g, j * 4 + 1, none⟩) hgl).trans q1
              have p2 : wr.cell? ⟨g, j * 4 + 2, none⟩ = some (.int .i32 0) := (HBl.out.cell (p := ⟨g, j * 4 + 2, none⟩) hgl).trans q2
              have p3 : wr.cell? ⟨g, j * 4 + 3, none⟩ = some (.int .i64 (e : Int)) := (HBl.out.cell (p := ⟨g, j * 4 + 3, none⟩) hgl).trans q3
              have s1 : wr.cell? ⟨sb, j * 5 + 1, none⟩ = some (.int .i64 z) := (HBl.out.cell (p := ⟨sb, j * 5 + 1, none⟩) hs2).trans (HS2.out j _ hFj).2.1
              have hsw : sb < wr.heap.size := by have := HBl.out.size; omega
              have HN := Lib.hid htk
              have hdl : d.length ≤ 4096 := by
                obtain ⟨z', hz', _, h2⟩ := HRd.out _ (List.mem_of_getElem? hFj)
                have : z = z' := congrArg Cl.sz hz'
                omega
              clear q0 q1 q2 q3 hFj hAj htk
              rcases hcase with ⟨hde, hlt⟩ | ⟨rfl, rfl, heq⟩
              · clear hlt
                have hgt : decide (z < (d.length : Int)) = false := by simp; omega
                go_wp2
                go_quiet (fail)
                go_wp2
                exact ⟨⟨j + 1, u ++ ⟨d.toArray⟩, by omega, by go_num, rfl, app_hid HU HN, below_dn (HBl.out.alloc HBl.out.size _) _⟩, by simp [intOf]; omega⟩
              · have hus : u = s := str_ext (by rw [HU.out, heq]; exact List.take_of_length_le (by rw [len_eq]; exact Nat.le_refl _))
                have p0' : wr.cell? ⟨g, j * 4, none⟩ = some (.string ⟨#[]⟩) := p0
                have p1' : wr.cell? ⟨g, j * 4 + 1, none⟩ = some (.int .i64 0) := p1
                have p3' : wr.cell? ⟨g, j * 4 + 3, none⟩ = some (.int .i64 1) := p3
                have hz0 : 0 ≤ z := by simpa using hdz
                have hgt : decide (z < (0 : Int)) = false := by simp; omega
                clear p0 p1 p3 hdz hdl heq
                subst hus
                go_wp2
                go_quiet (fail)
                go_wp2
                exact ⟨⟨j + 1, u ++ ⟨[].toArray⟩, by omega, by go_num, rfl, app_hid (l := []) HU HN, below_dn (HBl.out.alloc HBl.out.size _) _⟩, by simp [intOf]; omega⟩
            · obtain rfl : j = n := by omega
              have hus : u = s := str_ext (by rw [HU.out, List.take_of_length_le (Nat.le_of_eq HFn.out), HEnd.out]; exact List.take_of_length_le (by rw [len_eq]; exact Nat.le_refl _))
              have HFin : Hid (Below W.heap.size W wr) := HB2.out.trans (HBl.out.mono HB2.out.size)
              clear hjt hj husz HU HEnd HRd HS2 HO
              subst hus
              go_wp2
              go_ret
              exact ⟨rfl, HFin.out⟩
end Go.Proofs.YthjecnbaconfjaaDoor
