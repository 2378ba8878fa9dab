/- What the methods of a reader of a string do: ReadByte, Read, ReadAt and Seek, at an offset within the string. Conditions: the reader's block and io.EOF lie as stated, a buffer is a row of its own. -/
import Derived.Test.YthjecnbaconfjaaDoorProg
import Derived.Test.YthjecnbaconfjaaDoorBase
import Derived.WalkSpells
import Derived.WalkLawsBesides
import Derived.BigQuiet
import Derived.Deep.RegionLaw
import Derived.Lib.Hide
namespace Go.Proofs.YthjecnbaconfjaaDoor
open Go.RowKit

/-- io.EOF holds a pointer. -/
def Eof (ea : Addr) (w : World) : Prop := w.cell? ⟨0, 0, none⟩ = some (.iface 70 (.pointer (some ea)))
theorem Eof.kept {ea : Addr} {w w' : World} (h : Eof ea w) {k B : Nat} (hk : Keep k B w w') (hB : 0 < B) (hn : 0 ≠ k) : Eof ea w' := (hk.cell (p := ⟨0, 0, none⟩) hB hn).trans h

theorem s_readByte_end (rb : Nat) (s : ByteArray) (ea : Addr) (W : World) (hR : Rd 46 rb (.string s) s.size W) (hE : Eof ea W) (h0 : 0 < rb) (_hl : s.size ≤ 9223372036854775807) :
    Calls Tryd.prog 53 #[.pointer (some ⟨rb, 0, none⟩)] W fun e w' => e = .returned (.tuple #[.int .u8 0, .iface 70 (.pointer (some ea))]) ∧ Rd 46 rb (.string s) s.size w' ∧ Keep rb W.heap.size W w' := by
  obtain ⟨pr, hr⟩ := hR
  obtain ⟨c0, c1, c2, f0, f1, f2⟩ := rd3 hr
  have hE' : (W.setCell ⟨rb, 2, none⟩ (.int .i64 (-1))).cell? ⟨0, 0, none⟩ = some (.iface 70 (.pointer (some ea))) := by
    exact (World.cell?_of_block (Below.heap_setCell _ _ _ _ (by simp; omega))).trans hE
  have hend : Hid (Rd 46 rb (.string s) s.size (W.setCell ⟨rb, 2, none⟩ (.int .i64 (-1)))) := ⟨-1, by rw [heap_setCell_same _ _ _ _ _ _ hr]; rfl⟩
  clear hE hr
  go_enter Tryd.func53, Tryd.ntmps53
  go_wp2
  all_goals (try go_quiet (fail))
  all_goals (try go_wp2)
  all_goals (try go_quiet (fail))
  all_goals (try go_wp2)
  go_ret2
  exact ⟨rfl, hend.out.of_heap rfl, (((Keep.refl _ _ _).own _ _).drewN _).drewN _⟩

theorem s_readByte_in (rb : Nat) (s : ByteArray) (i : Nat) (W : World) (hR : Rd 46 rb (.string s) i W) (hl : s.size ≤ 9223372036854775807) (h : i < s.size) :
    Calls Tryd.prog 53 #[.pointer (some ⟨rb, 0, none⟩)] W fun e w' => e = .returned (.tuple #[.int .u8 s[i].toNat, .nilIface]) ∧ Rd 46 rb (.string s) (i + 1) w' ∧ Keep rb W.heap.size W w' := by
  obtain ⟨pr, hr⟩ := hR
  obtain ⟨c0, c1, c2, f0, f1, f2⟩ := rd3 hr
  have hend : Hid (Rd 46 rb (.string s) (i + 1) ((W.setCell ⟨rb, 2, none⟩ (.int .i64 (-1))).setCell ⟨rb, 1, none⟩ (.int .i64 (i + 1)))) :=
    ⟨-1, by rw [heap_setCell_same _ _ _ _ _ _ (heap_setCell_same _ _ _ _ _ _ hr)]; rfl⟩
  clear hr
  go_enter Tryd.func53, Tryd.ntmps53
  go_wp2
  all_goals (try go_quiet (fail))
  all_goals (try go_wp2)
  all_goals (try go_quiet (fail))
  all_goals (try go_wp2)
  go_ret2
  exact ⟨rfl, hend.out.of_heap rfl, (((Keep.refl _ _ _).own _ _).drewN _).own _ _⟩

theorem A.sz5 : (Tryd.prog.info? 5).map (·.size) = some 1 := by kernel_rfl

theorem s_read_end (rb : Nat) (s : ByteArray) (ea : Addr) (v : Value) (W : World) (hR : Rd 46 rb (.string s) s.size W) (hE : Eof ea W) (_hl : s.size ≤ 9223372036854775807) :
    Calls Tryd.prog 51 #[.pointer (some ⟨rb, 0, none⟩), v] W fun e w' => e = .returned (.tuple #[.int .i64 0, .iface 70 (.pointer (some ea))]) ∧ Rd 46 rb (.string s) s.size w' ∧ Keep rb W.heap.size W w' := by
  have hend := Lib.hid hR
  obtain ⟨pr, hr⟩ := hR
  obtain ⟨c0, c1, c2, f0, f1, f2⟩ := rd3 hr
  have hE' : W.cell? ⟨0, 0, none⟩ = some (.iface 70 (.pointer (some ea))) := hE
  clear hE hr
  go_enter Tryd.func51, Tryd.ntmps51
  go_wp2
  all_goals (try go_quiet (fail))
  all_goals (try go_wp2)
  all_goals (try go_quiet (fail))
  all_goals (try go_wp2)
  go_ret2
  exact ⟨rfl, hend.out.of_heap rfl, (Keep.refl _ _ _).drewN _ |>.drewN _⟩

theorem s_read_in (rb bb : Nat) (s : ByteArray) (i n k : Nat) (cur : Array Value) (W : World) (hR : Rd 46 rb (.string s) i W) (hB : W.heap[bb]? = some (.cells cur 5 (0, 0))) (hc : cur.size = n) (hne : rb ≠ bb) (hl : s.size ≤ 9223372036854775807) (h : i < s.size) (hk : k = min (s.size - i) n) :
    Calls Tryd.prog 51 #[.pointer (some ⟨rb, 0, none⟩), .slice (some ⟨bb, 0, none⟩) n n] W fun e w' => e = .returned (.tuple #[.int .i64 k, .nilIface]) ∧ Rd 46 rb (.string s) (i + k) w' ∧
      Hid (w'.heap[bb]? = some (.cells (Lib.byteCells (cut s i k) ++ cur.toList.drop k).toArray 5 (0, 0))) ∧ Keep rb bb W w' := by
  obtain ⟨pr, hr⟩ := hR
  obtain ⟨c0, c1, c2, f0, f1, f2⟩ := rd3 hr
  have lr := lt_of_heap hr
  have hB' : (W.setCell ⟨rb, 2, none⟩ (.int .i64 (-1))).heap[bb]? = some (.cells cur 5 (0, 0)) := (Below.heap_setCell _ _ _ _ (by simpa using hne.symm)).trans hB
  have HB := Lib.hid hB'
  have HR : Hid ((W.setCell ⟨rb, 2, none⟩ (.int .i64 (-1))).heap[rb]? = some (.cells #[.string s, .int .i64 i, .int .i64 (-1)] 46 (0, 0))) := by
    show _ = _; rw [heap_setCell_same _ _ _ _ _ _ hr]; rfl
  have lb := lt_of_heap hB
  have HC := Lib.hid hc
  have HK := Lib.hid hk
  have HN := Lib.hid hne
  have hkb : k ≤ s.size - i := by omega
  have hile : i ≤ s.size := by omega
  clear hr hB hB' hc hk hne
  go_enter Tryd.func51, Tryd.ntmps51
  go_wp2
  all_goals (try go_quiet (fail))
  all_goals (try go_wp2)
  go_region_law (refine step_copy_run rfl (.tmp 20) (.tmp 29) 35 9 rfl _ _ rfl rfl bb k cur _ 5 (by exact HB.out) (fun ty => by exact (run_copy_str _ 35 9 ty 5 bb n n (s.extract i s.size) k cur 5 Tryd.underlying35 A.sz5 (by exact HB.out) HC.out (by rw [extract_size]; exact HK.out))) ?_; intro w4 h4 k4)
  all_goals
    have hr4 : w4.heap[rb]? = some (.cells #[.string s, .int .i64 i, .int .i64 (-1)] 46 (0, 0)) := (k4.block rb (by simpa using lr) HN.out).trans HR.out
    obtain ⟨c0', c1', c2', f0', f1', f2'⟩ := rd3 hr4
    have HR4 := Lib.hid hr4
    clear hr4 c0 c1 c2 f0 f1 f2
  go_wp2
  all_goals
    go_ret2
    rw [extract_take s i k (by omega)] at h4
    exact ⟨rfl, read_close HR4 h4 k4 ((((Keep.refl _ _ _).drewN _).own _ _).drew) (by simpa using lb) HN (by omega)⟩

theorem s_readAt_end (rb : Nat) (s : ByteArray) (i : Nat) (ea : Addr) (v : Value) (W : World) (hR : Rd 46 rb (.string s) i W) (hE : Eof ea W) (_hl : s.size ≤ 9223372036854775807) :
    Calls Tryd.prog 52 #[.pointer (some ⟨rb, 0, none⟩), v, .int .i64 s.size] W fun e w' => e = .returned (.tuple #[.int .i64 0, .iface 70 (.pointer (some ea))]) ∧ Rd 46 rb (.string s) i w' ∧ Keep rb W.heap.size W w' := by
  have hend := Lib.hid hR
  obtain ⟨pr, hr⟩ := hR
  obtain ⟨c0, c1, c2, f0, f1, f2⟩ := rd3 hr
  have hE' : W.cell? ⟨0, 0, none⟩ = some (.iface 70 (.pointer (some ea))) := hE
  clear hE hr
  go_enter Tryd.func52, Tryd.ntmps52
  go_wp2
  all_goals (try go_quiet (fail))
  all_goals (try go_wp2)
  go_ret2
  exact ⟨rfl, hend.out.of_heap rfl, (Keep.refl _ _ _).drewN _⟩

theorem s_readAt_in (rb bb : Nat) (s : ByteArray) (i off n k : Nat) (ea : Addr) (cur : Array Value) (W : World) (hR : Rd 46 rb (.string s) i W) (hE : Eof ea W) (h0 : 0 ≠ bb) (hB : W.heap[bb]? = some (.cells cur 5 (0, 0))) (hc : cur.size = n) (hne : rb ≠ bb) (_hl : s.size ≤ 9223372036854775807) (_hn : n ≤ 9223372036854775807) (h : off < s.size) (hk : k = min (s.size - off) n) :
    Calls Tryd.prog 52 #[.pointer (some ⟨rb, 0, none⟩), .slice (some ⟨bb, 0, none⟩) n n, .int .i64 off] W fun e w' => e = .returned (.tuple #[.int .i64 k, if k < n then .iface 70 (.pointer (some ea)) else .nilIface]) ∧ Rd 46 rb (.string s) i w' ∧
      Hid (w'.heap[bb]? = some (.cells (Lib.byteCells (cut s off k) ++ cur.toList.drop k).toArray 5 (0, 0))) ∧ Keep rb bb W w' := by
  have HRd := Lib.hid hR
  obtain ⟨pr, hr⟩ := hR
  obtain ⟨c0, c1, c2, f0, f1, f2⟩ := rd3 hr
  have lr := lt_of_heap hr
  have lb := lt_of_heap hB
  have HB := Lib.hid hB
  have HC := Lib.hid hc
  have HK := Lib.hid hk
  have HN := Lib.hid hne
  have H0 := Lib.hid h0
  have HE := Lib.hid hE
  have hkb : k ≤ s.size - off := by omega
  have hkn : k ≤ n := by omega
  have hile : off ≤ s.size := by omega
  have hrun := fun ty (w : World) (hw : w.heap[bb]? = some (.cells cur 5 (0, 0))) => run_copy_str (P := Tryd.prog) w 35 9 ty 5 bb n n (s.extract off s.size) k cur 5 Tryd.underlying35 A.sz5 hw hc (by rw [extract_size]; exact hk)
  have HX := Lib.hid hrun
  clear hr hB hc hk hne h0 hE hrun
  by_cases hkn' : k < n
  all_goals
    go_enter Tryd.func52, Tryd.ntmps52
    go_wp2_with ((refine wpList_copy_run rfl (.tmp 19) (.tmp 25) 35 9 rfl (.slice (some ⟨bb, 0, none⟩) n n) (.string (s.extract off s.size)) rfl rfl bb k cur _ 5 HB.out (fun ty => HX.out ty _ HB.out) ?_); intro w4 h4 k4; have hE4 : w4.cell? ⟨0, 0, none⟩ = some (.iface 70 (.pointer (some ea))) := HE.out.kept k4 (by have := lb; omega) H0.out)
    go_ret2
    rw [extract_take s off k (by omega)] at h4
    exact ⟨by simp, HRd.out.kept k4 lr HN.out, h4, (k4.mono (Nat.le_of_lt lb)).other (Nat.le_refl _)⟩

theorem s_seek (rb : Nat) (s : ByteArray) (i off : Nat) (W : World) (hR : Rd 46 rb (.string s) i W) (_hl : s.size ≤ 9223372036854775807) (_h : off ≤ s.size) :
    Calls Tryd.prog 55 #[.pointer (some ⟨rb, 0, none⟩), .int .i64 off, .int .i64 0] W fun e w' => e = .returned (.tuple #[.int .i64 off, .nilIface]) ∧ Rd 46 rb (.string s) off w' ∧ Keep rb W.heap.size W w' := by
  obtain ⟨pr, hr⟩ := hR
  obtain ⟨c0, c1, c2, f0, f1, f2⟩ := rd3 hr
  have hend : Hid (Rd 46 rb (.string s) off ((W.setCell ⟨rb, 2, none⟩ (.int .i64 (-1))).setCell ⟨rb, 1, none⟩ (.int .i64 off))) :=
    ⟨-1, by rw [heap_setCell_same _ _ _ _ _ _ (heap_setCell_same _ _ _ _ _ _ hr)]; rfl⟩
  clear hr
  go_enter Tryd.func55, Tryd.ntmps55
  go_wp2
  go_ret2
  exact ⟨rfl, hend.out.of_heap rfl, ((Keep.refl _ _ _).own _ _).own _ _⟩
end Go.Proofs.YthjecnbaconfjaaDoor
