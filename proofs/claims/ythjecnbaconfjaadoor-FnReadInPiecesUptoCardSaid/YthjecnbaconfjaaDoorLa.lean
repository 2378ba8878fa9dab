/- laws.FnReadAtIsSeekAndRead returns true, for both readers, every string and every size and offset. -/
import Derived.Test.YthjecnbaconfjaaDoorWy
import Derived.Deep.DeepCutAuto
namespace Go.Proofs.YthjecnbaconfjaaDoor
open Go.RowKit

/-- The offset that the law makes. -/
theorem off_bounds (off : Int) (l : Nat) : -(l : Int) ≤ off.tmod ((l : Int) + 1) ∧ off.tmod ((l : Int) + 1) ≤ (l : Int) := by
  have h1 := Int.tmod_lt_of_pos off (show (0 : Int) < (l : Int) + 1 by omega)
  have h2 := Int.lt_tmod_of_pos off (show (0 : Int) < (l : Int) + 1 by omega)
  omega

theorem own_cells {w : World} {base n : Nat} {v : Value} {xs : List Value} (h : w.ownsRow base 28 4 v n xs) (hn : 0 < n) :
    ∃ g cap, v = .slice (some ⟨g, 0, none⟩) n cap ∧ base ≤ g ∧ g < w.heap.size ∧ ∀ j, j < n * 4 → w.cell? ⟨g, j, none⟩ = xs[j]? := by
  have h' := h
  obtain ⟨_, h | ⟨g, cap, cur, hv, hg, hh, _⟩⟩ := h
  · omega
  · subst hv
    exact ⟨g, cap, rfl, hg, lt_of_heap hh, fun j hj => h'.cellAt j hj⟩

/-- The law's script. -/
def script3 (size : Int) (o : Nat) : List Cl := [⟨1, size, 0, o, ⟨#[]⟩⟩, ⟨6, 0, 0, o, ⟨#[]⟩⟩, ⟨0, size, 0, 0, ⟨#[]⟩⟩]
theorem script3_in (size : Int) (o : Nat) (W : World) : Script W.heap.size (script3 size o) (W.alloc (.cells #[.int .i64 1, .int .i64 size, .int .i64 0, .int .i64 o, .string ⟨#[]⟩, .int .i64 6, .int .i64 0, .int .i64 0, .int .i64 o, .string ⟨#[]⟩, .int .i64 0, .int .i64 size, .int .i64 0, .int .i64 0, .string ⟨#[]⟩] 25)) := by
  intro j c hj
  have hc := fun k => cell_at (heap_alloc_new W (.cells #[.int .i64 1, .int .i64 size, .int .i64 0, .int .i64 o, .string ⟨#[]⟩, .int .i64 6, .int .i64 0, .int .i64 0, .int .i64 o, .string ⟨#[]⟩, .int .i64 0, .int .i64 size, .int .i64 0, .int .i64 0, .string ⟨#[]⟩] 25)) k
  unfold script3 at hj
  match j, hj with
  | 0, hj => simp at hj; subst hj; exact ⟨hc _, hc _, hc _, hc _, hc _⟩
  | 1, hj => simp at hj; subst hj; exact ⟨hc _, hc _, hc _, hc _, hc _⟩
  | 2, hj => simp at hj; subst hj; exact ⟨hc _, hc _, hc _, hc _, hc _⟩
  | j + 3, hj => simp at hj
theorem script3_ok (s : ByteArray) (size : Int) (o : Nat) (z1 : -9223372036854775808 ≤ size) (z2 : size ≤ 9223372036854775807) (ho : o ≤ s.size) : ∀ c ∈ script3 size o, okCl s c := by
  intro c hc
  simp only [script3, List.mem_cons, List.not_mem_nil, or_false] at hc
  rcases hc with rfl | rfl | rfl
  · exact ⟨⟨z1, z2⟩, Or.inr (Or.inr (Or.inl ⟨rfl, by show (0 : Int) ≤ (o : Int); omega, by show (o : Int) ≤ (s.size : Int); omega⟩))⟩
  · exact ⟨⟨by show (-9223372036854775808 : Int) ≤ 0; omega, by show (0 : Int) ≤ 9223372036854775807; omega⟩, Or.inr (Or.inr (Or.inr ⟨rfl, rfl, by show (0 : Int) ≤ (o : Int); omega, by show (o : Int) ≤ (s.size : Int); omega⟩))⟩
  · exact ⟨⟨z1, z2⟩, Or.inl rfl⟩
theorem script3_ans (s : ByteArray) (size : Int) (o : Nat) : ∃ c1 c3 : Nat, answers s 0 (script3 size o) = [⟨cut s o (got s o (clamp size)), (got s o (clamp size) : Nat), 0, c1⟩, ⟨[], o, 0, 0⟩, ⟨cut s o (got s o (clamp size)), (got s o (clamp size) : Nat), 0, c3⟩] :=
  ⟨_, _, rfl⟩

theorem law3_walk (b : Bool) (s : ByteArray) (size off : Int) (ea : Addr) (W : World) (hE : Eof ea W) (h0 : 0 < W.heap.size) (hl : s.size ≤ 140737488351232) (z1 : -9223372036854775808 ≤ size) (z2 : size ≤ 9223372036854775807) :
    Calls Tryd.prog 3 #[.bool b, .string s, .int .i64 size, .int .i64 off] W fun e w' => e = .returned (.bool true) ∧ Below W.heap.size W w' := by
  have ob := off_bounds off s.size
  obtain ⟨ob1, ob2⟩ := ob
  have HE := Lib.hid hE
  clear hE
  obtain ⟨o, ho, hol⟩ : ∃ o : Nat, (off.tmod (↑s.size + 1) + ↑s.size + 1) % (↑s.size + 1) = (o : Int) ∧ o ≤ s.size := by
    have h1 := Int.emod_nonneg (off.tmod (↑s.size + 1) + ↑s.size + 1) (show ((s.size : Int) + 1) ≠ 0 by omega)
    have h2 := Int.emod_lt_of_pos (off.tmod (↑s.size + 1) + ↑s.size + 1) (show (0 : Int) < (s.size : Int) + 1 by omega)
    exact ⟨_, (Int.toNat_of_nonneg h1).symm, by omega⟩
  go_enter Tryd.func3, Tryd.ntmps3
  go_wp2_with fail
  refine (play_any b W.heap.size 3 s (script3 size o) 3 ea _ (script3_in size o W) (by simp) ?x1 (by simp) rfl (by omega) hl (script3_ok s size o z1 z2 hol)).mono ?_
  case x1 => exact ((Below.refl _ W).alloc (Nat.le_refl _) _ |>.cell (p := ⟨0, 0, none⟩) h0).trans HE.out
  rintro e w2 ⟨v, rfl, hown, hb2⟩
  obtain ⟨g, cap, rfl, hg, hgl, hcell⟩ := own_cells hown (by omega)
  obtain ⟨c1, c3, ha⟩ := script3_ans s size o
  rw [ha] at hcell
  have q0 : w2.cell? ⟨g, 0, none⟩ = some (.string ⟨(cut s o (got s o (clamp size))).toArray⟩) := hcell 0 (by omega)
  have q5 : w2.cell? ⟨g, 5, none⟩ = some (.int .i64 o) := hcell 5 (by omega)
  have q8 : w2.cell? ⟨g, 8, none⟩ = some (.string ⟨(cut s o (got s o (clamp size))).toArray⟩) := hcell 8 (by omega)
  have HB2 : Hid (Below W.heap.size W w2) := ((Below.refl _ W).alloc (Nat.le_refl _) _).trans (hb2.mono (by simp))
  have hm : Hid (((got s o (clamp size) : Nat) : Int) = min ((s.size : Int) - o) (min (max size 0) 4096)) := by
    have := clamp_cast size
    show _ = _
    unfold got; split <;> omega
  have hgl2 := (got_le s o (clamp size) hol).1
  generalize got s o (clamp size) = m at *
  clear hown hb2 hcell ha
  go_upto_region 5 with (fail)
  go_cut [10] (fun x wx => x = .int .i64 (m : Int) ∧ w2 = wx)
  case first =>
    by_cases hneg : size < 0
    · have hneg2 : ¬ 0 ≤ size := by omega
      go_wp2
      all_goals
        go_meet
        have := hm.out
        exact ⟨congrArg (Value.int .i64) (by omega), rfl⟩
    · by_cases hbig : 4096 < size
      · go_wp2
        all_goals
          go_meet
          have := hm.out
          exact ⟨congrArg (Value.int .i64) (by omega), rfl⟩
      · go_wp2
        all_goals
          go_meet
          have := hm.out
          exact ⟨congrArg (Value.int .i64) (by omega), rfl⟩
  case rest =>
    obtain ⟨rfl, rfl⟩ := hcut
    have hx : (s.extract o (o + m)).toList = cut s o m := by
      rw [ByteArray.toList_eq, ByteArray.data_extract, Array.toList_extract, List.extract_eq_take_drop, Nat.add_sub_cancel_left]; rfl
    have b1 : (0 : Int) ≤ (o : Int) + m := by omega
    have b2 : (o : Int) ≤ (o : Int) + m := by omega
    have b3 : (o : Int) + m ≤ (s.size : Int) := by omega
    have b4 : o ≤ o + m := by omega
    have e1 : IntKind.i64.wrap ((o : Int) + m) = (o : Int) + m := IntWalk.i64_in _ (by omega)
    have e2 : ((o : Int) + m).toNat = o + m := by omega
    clear ho ob1 ob2 hm
    go_wp2
    go_quiet (fail)
    go_wp2
    go_ret
    exact ⟨rfl, HB2.out.os, HB2.out.tape, HB2.out.output, HB2.out.size, HB2.out.block⟩
end Go.Proofs.YthjecnbaconfjaaDoor
