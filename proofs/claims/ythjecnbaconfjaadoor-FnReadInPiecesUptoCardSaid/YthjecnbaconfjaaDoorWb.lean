/- What the methods of a reader of bytes do: ReadByte, Read, ReadAt and Seek, at an offset within the bytes. Conditions: the reader's block, its bytes and io.EOF lie as stated, a buffer is a row of its own. -/
import Derived.Test.YthjecnbaconfjaaDoorWs
namespace Go.Proofs.YthjecnbaconfjaaDoor
open Go.RowKit

theorem b_readByte_end (rb db cap : Nat) (s : ByteArray) (ea : Addr) (W : World) (hR : Rd 40 rb (.slice (some ⟨db, 0, none⟩) s.size cap) s.size W) (hE : Eof ea W) (h0 : 0 < rb) (_hl : s.size ≤ 9223372036854775807) :
    Calls Tryd.prog 40 #[.pointer (some ⟨rb, 0, none⟩)] W fun e w' => e = .returned (.tuple #[.int .u8 0, .iface 70 (.pointer (some ea))]) ∧ Rd 40 rb (.slice (some ⟨db, 0, none⟩) s.size cap) s.size w' ∧ Keep rb W.heap.size W w' := by
  obtain ⟨pr, hr⟩ := hR
  obtain ⟨c0, c1, c2, f0, f1, f2⟩ := rd3 hr
  have hE' : (W.setCell ⟨rb, 2, none⟩ (.int .i64 (-1))).cell? ⟨0, 0, none⟩ = some (.iface 70 (.pointer (some ea))) := by
    exact (World.cell?_of_block (Below.heap_setCell _ _ _ _ (by simp; omega))).trans hE
  have hend : Hid (Rd 40 rb (.slice (some ⟨db, 0, none⟩) s.size cap) s.size (W.setCell ⟨rb, 2, none⟩ (.int .i64 (-1)))) := ⟨-1, by rw [heap_setCell_same _ _ _ _ _ _ hr]; rfl⟩
  clear hE hr
  go_enter Tryd.func40, Tryd.ntmps40
  go_wp2
  all_goals (try go_quiet (fail))
  all_goals (try go_wp2)
  all_goals (try go_quiet (fail))
  all_goals (try go_wp2)
  go_ret2
  exact ⟨rfl, hend.out.of_heap rfl, (((Keep.refl _ _ _).own _ _).drewN _).drewN _⟩

theorem b_readByte_in (rb db cap : Nat) (s : ByteArray) (i : Nat) (W : World) (hR : Rd 40 rb (.slice (some ⟨db, 0, none⟩) s.size cap) i W) (hD : Bytes db cap s W) (hdr : db ≠ rb) (hl : s.size ≤ 9223372036854775807) (h : i < s.size) :
    Calls Tryd.prog 40 #[.pointer (some ⟨rb, 0, none⟩)] W fun e w' => e = .returned (.tuple #[.int .u8 s[i].toNat, .nilIface]) ∧ Rd 40 rb (.slice (some ⟨db, 0, none⟩) s.size cap) (i + 1) w' ∧ Keep rb W.heap.size W w' := by
  obtain ⟨pr, hr⟩ := hR
  obtain ⟨c0, c1, c2, f0, f1, f2⟩ := rd3 hr
  have hend : Hid (Rd 40 rb (.slice (some ⟨db, 0, none⟩) s.size cap) (i + 1) ((W.setCell ⟨rb, 2, none⟩ (.int .i64 (-1))).setCell ⟨rb, 1, none⟩ (.int .i64 (i + 1)))) :=
    ⟨-1, by rw [heap_setCell_same _ _ _ _ _ _ (heap_setCell_same _ _ _ _ _ _ hr)]; rfl⟩
  have hz : (W.setCell ⟨rb, 2, none⟩ (.int .i64 (-1))).cell? ⟨db, i, none⟩ = some (.int .u8 (s[i].toNat : Int)) :=
    (World.cell?_of_block (Below.heap_setCell _ _ _ _ (by simpa using hdr))).trans (hD.2.2 i h)
  clear hr hD hdr
  go_enter Tryd.func40, Tryd.ntmps40
  go_wp2
  all_goals (try go_quiet (fail))
  all_goals (try go_wp2)
  all_goals (try go_quiet (fail))
  all_goals (try go_wp2)
  go_ret2
  exact ⟨rfl, hend.out.of_heap rfl, (((Keep.refl _ _ _).own _ _).drewN _).own _ _⟩

theorem b_read_end (rb db cap : Nat) (s : ByteArray) (ea : Addr) (v : Value) (W : World) (hR : Rd 40 rb (.slice (some ⟨db, 0, none⟩) s.size cap) s.size W) (hE : Eof ea W) (_hl : s.size ≤ 9223372036854775807) :
    Calls Tryd.prog 38 #[.pointer (some ⟨rb, 0, none⟩), v] W fun e w' => e = .returned (.tuple #[.int .i64 0, .iface 70 (.pointer (some ea))]) ∧ Rd 40 rb (.slice (some ⟨db, 0, none⟩) s.size cap) s.size w' ∧ Keep rb W.heap.size W w' := by
  have hend := Lib.hid hR
  obtain ⟨pr, hr⟩ := hR
  obtain ⟨c0, c1, c2, f0, f1, f2⟩ := rd3 hr
  have hE' : W.cell? ⟨0, 0, none⟩ = some (.iface 70 (.pointer (some ea))) := hE
  clear hE hr
  go_enter Tryd.func38, Tryd.ntmps38
  go_wp2
  all_goals (try go_quiet (fail))
  all_goals (try go_wp2)
  all_goals (try go_quiet (fail))
  all_goals (try go_wp2)
  go_ret2
  exact ⟨rfl, hend.out.of_heap rfl, (Keep.refl _ _ _).drewN _ |>.drewN _⟩

theorem b_read_in (rb db cap bb : Nat) (s : ByteArray) (i n k : Nat) (cur : Array Value) (W : World) (hR : Rd 40 rb (.slice (some ⟨db, 0, none⟩) s.size cap) i W) (hD : Bytes db cap s W) (hdr : db ≠ rb) (hB : W.heap[bb]? = some (.cells cur 5 (0, 0))) (hc : cur.size = n) (hne : rb ≠ bb) (hl : s.size ≤ 9223372036854775807) (h : i < s.size) (hk : k = min (s.size - i) n) :
    Calls Tryd.prog 38 #[.pointer (some ⟨rb, 0, none⟩), .slice (some ⟨bb, 0, none⟩) n n] W fun e w' => e = .returned (.tuple #[.int .i64 k, .nilIface]) ∧ Rd 40 rb (.slice (some ⟨db, 0, none⟩) s.size cap) (i + k) w' ∧
      Hid (w'.heap[bb]? = some (.cells (Lib.byteCells (cut s i k) ++ cur.toList.drop k).toArray 5 (0, 0))) ∧ Keep rb bb W w' := by
  obtain ⟨pr, hr⟩ := hR
  obtain ⟨c0, c1, c2, f0, f1, f2⟩ := rd3 hr
  have lr := lt_of_heap hr
  have hB' : (W.setCell ⟨rb, 2, none⟩ (.int .i64 (-1))).heap[bb]? = some (.cells cur 5 (0, 0)) := (Below.heap_setCell _ _ _ _ (by simpa using hne.symm)).trans hB
  have HB := Lib.hid hB'
  have HR : Hid ((W.setCell ⟨rb, 2, none⟩ (.int .i64 (-1))).heap[rb]? = some (.cells #[.slice (some ⟨db, 0, none⟩) s.size cap, .int .i64 i, .int .i64 (-1)] 40 (0, 0))) := by
    show _ = _; rw [heap_setCell_same _ _ _ _ _ _ hr]; rfl
  have hz : ∀ j (h : j < s.size), (W.setCell ⟨rb, 2, none⟩ (.int .i64 (-1))).cell? ⟨db, j, none⟩ = some (.int .u8 (s[j].toNat : Int)) := fun j hj =>
    (World.cell?_of_block (Below.heap_setCell _ _ _ _ (by simpa using hdr))).trans (hD.2.2 j hj)
  have hrun := fun ty (w : World) (hw : w.heap[bb]? = some (.cells cur 5 (0, 0))) hz => run_copy_byt (P := Tryd.prog) w 35 35 ty 5 bb n n db (cap - i) s i k cur 5 Tryd.underlying35 A.sz5 hw hc (by omega) hk hz
  have HX := Lib.hid hrun
  have HZ := Lib.hid hz
  have lb := lt_of_heap hB
  have hcap := hD.1
  have hcapm := hD.2.1
  unfold maxLen at hcapm
  have HN := Lib.hid hne
  have hkb : k ≤ s.size - i := by omega
  have hile : i ≤ s.size := by omega
  have hilc : ¬ cap = i := by omega
  clear hr hB hB' hc hk hne hD hdr hz hrun
  go_enter Tryd.func38, Tryd.ntmps38
  go_wp2
  all_goals (try go_quiet (fail))
  all_goals (try go_wp2)
  go_region_law (refine step_copy_run rfl (.tmp 20) (.tmp 29) 35 35 rfl (.slice (some ⟨bb, 0, none⟩) n n) (.slice (some ⟨db, i, none⟩) (s.size - i) (cap - i)) rfl rfl bb k cur (Lib.byteCells (cut s i k) ++ cur.toList.drop k).toArray 5 HB.out (fun ty => HX.out ty _ HB.out (fun j hj => HZ.out j hj)) ?_; intro w4 h4 k4)
  all_goals
    have hr4 : w4.heap[rb]? = some (.cells #[.slice (some ⟨db, 0, none⟩) s.size cap, .int .i64 i, .int .i64 (-1)] 40 (0, 0)) := (k4.block rb (by simpa using lr) HN.out).trans HR.out
    obtain ⟨c0', c1', c2', f0', f1', f2'⟩ := rd3 hr4
    have HR4 := Lib.hid hr4
    clear hr4 c0 c1 c2 f0 f1 f2
  go_wp2
  all_goals
    go_ret2
    exact ⟨rfl, read_close HR4 h4 k4 ((((Keep.refl _ _ _).drewN _).own _ _).drew) (by simpa using lb) HN (by omega)⟩

theorem b_readAt_end (rb db cap : Nat) (s : ByteArray) (i : Nat) (ea : Addr) (v : Value) (W : World) (hR : Rd 40 rb (.slice (some ⟨db, 0, none⟩) s.size cap) i W) (hE : Eof ea W) (_hl : s.size ≤ 9223372036854775807) :
    Calls Tryd.prog 39 #[.pointer (some ⟨rb, 0, none⟩), v, .int .i64 s.size] W fun e w' => e = .returned (.tuple #[.int .i64 0, .iface 70 (.pointer (some ea))]) ∧ Rd 40 rb (.slice (some ⟨db, 0, none⟩) s.size cap) i w' ∧ Keep rb W.heap.size W w' := by
  have hend := Lib.hid hR
  obtain ⟨pr, hr⟩ := hR
  obtain ⟨c0, c1, c2, f0, f1, f2⟩ := rd3 hr
  have hE' : W.cell? ⟨0, 0, none⟩ = some (.iface 70 (.pointer (some ea))) := hE
  clear hE hr
  go_enter Tryd.func39, Tryd.ntmps39
  go_wp2
  all_goals (try go_quiet (fail))
  all_goals (try go_wp2)
  go_ret2
  exact ⟨rfl, hend.out.of_heap rfl, (Keep.refl _ _ _).drewN _⟩

theorem b_readAt_in (rb db cap bb : Nat) (s : ByteArray) (i off n k : Nat) (ea : Addr) (cur : Array Value) (W : World) (hR : Rd 40 rb (.slice (some ⟨db, 0, none⟩) s.size cap) i W) (hD : Bytes db cap s W) (hE : Eof ea W) (h0 : 0 ≠ bb) (hB : W.heap[bb]? = some (.cells cur 5 (0, 0))) (hc : cur.size = n) (hne : rb ≠ bb) (_hl : s.size ≤ 9223372036854775807) (_hn : n ≤ 9223372036854775807) (h : off < s.size) (hk : k = min (s.size - off) n) :
    Calls Tryd.prog 39 #[.pointer (some ⟨rb, 0, none⟩), .slice (some ⟨bb, 0, none⟩) n n, .int .i64 off] W fun e w' => e = .returned (.tuple #[.int .i64 k, if k < n then .iface 70 (.pointer (some ea)) else .nilIface]) ∧ Rd 40 rb (.slice (some ⟨db, 0, none⟩) s.size cap) i w' ∧
      Hid (w'.heap[bb]? = some (.cells (Lib.byteCells (cut s off k) ++ cur.toList.drop k).toArray 5 (0, 0))) ∧ Keep rb bb W w' := by
  have HRd := Lib.hid hR
  obtain ⟨pr, hr⟩ := hR
  obtain ⟨c0, c1, c2, f0, f1, f2⟩ := rd3 hr
  have lr := lt_of_heap hr
  have lb := lt_of_heap hB
  have HB := Lib.hid hB
  have HN := Lib.hid hne
  have H0 := Lib.hid h0
  have HE := Lib.hid hE
  have hcap := hD.1
  have hcapm := hD.2.1
  unfold maxLen at hcapm
  have hkb : k ≤ s.size - off := by omega
  have hkn : k ≤ n := by omega
  have hile : off ≤ s.size := by omega
  have hilc : off < cap := by omega
  have hrun := fun ty (w : World) (hw : w.heap[bb]? = some (.cells cur 5 (0, 0))) hz => run_copy_byt (P := Tryd.prog) w 35 35 ty 5 bb n n db (cap - off) s off k cur 5 Tryd.underlying35 A.sz5 hw hc (by omega) hk hz
  have HX := Lib.hid hrun
  have HZ := Lib.hid hD.2.2
  clear hr hB hc hk hne h0 hE hrun hD
  by_cases hkn' : k < n
  all_goals
    go_enter Tryd.func39, Tryd.ntmps39
    go_wp2_with ((refine wpList_copy_run rfl (.tmp 19) (.tmp 25) 35 35 rfl (.slice (some ⟨bb, 0, none⟩) n n) (.slice (some ⟨db, off, none⟩) (s.size - off) (cap - off)) rfl rfl bb k cur _ 5 HB.out (fun ty => HX.out ty _ HB.out HZ.out) ?_); intro w4 h4 k4; have hE4 : w4.cell? ⟨0, 0, none⟩ = some (.iface 70 (.pointer (some ea))) := HE.out.kept k4 (by have := lb; omega) H0.out)
    go_ret2
    exact ⟨by simp, HRd.out.kept k4 lr HN.out, h4, (k4.mono (Nat.le_of_lt lb)).other (Nat.le_refl _)⟩

theorem b_seek (rb : Nat) (S : Value) (i off : Nat) (W : World) (hR : Rd 40 rb S i W) (_hl : off ≤ 9223372036854775807) :
    Calls Tryd.prog 42 #[.pointer (some ⟨rb, 0, none⟩), .int .i64 off, .int .i64 0] W fun e w' => e = .returned (.tuple #[.int .i64 off, .nilIface]) ∧ Rd 40 rb S off w' ∧ Keep rb W.heap.size W w' := by
  obtain ⟨pr, hr⟩ := hR
  obtain ⟨c0, c1, c2, f0, f1, f2⟩ := rd3 hr
  have hend : Hid (Rd 40 rb S off ((W.setCell ⟨rb, 2, none⟩ (.int .i64 (-1))).setCell ⟨rb, 1, none⟩ (.int .i64 off))) :=
    ⟨-1, by rw [heap_setCell_same _ _ _ _ _ _ (heap_setCell_same _ _ _ _ _ _ hr)]; rfl⟩
  clear hr
  go_enter Tryd.func42, Tryd.ntmps42
  go_wp2
  go_ret2
  exact ⟨rfl, hend.out.of_heap rfl, ((Keep.refl _ _ _).own _ _).own _ _⟩
end Go.Proofs.YthjecnbaconfjaaDoor
