/- impl.call over both readers, at the kinds of calls that the three laws make: it returns what impl.read, impl.one or impl.other returns. Printed by gen_wc.py. -/
import Derived.Test.YthjecnbaconfjaaDoorWa
namespace Go.Proofs.YthjecnbaconfjaaDoor
open Go.RowKit

theorem s_call0 (rb : Nat) (S : Value) (i' : Nat) (y0 : ByteArray) (y1 y2 y3 : Int) (sz wh off : Int) (dt : ByteArray) (W : World) (lr : rb < W.heap.size)
    (H : ∀ w1, Below W.heap.size W w1 → Calls Tryd.prog 15 #[.iface 43 (.pointer (some ⟨rb, 0, none⟩)), .agg #[.int .i64 0, .int .i64 sz, .int .i64 wh, .int .i64 off, .string dt]] w1 fun e w' =>
      e = .returned (.agg #[.string y0, .int .i64 y1, .int .i32 y2, .int .i64 y3]) ∧ Rd 46 rb S i' w' ∧ Keep rb w1.heap.size w1 w') :
    Calls Tryd.prog 12 #[.iface 43 (.pointer (some ⟨rb, 0, none⟩)), .agg #[.int .i64 0, .int .i64 sz, .int .i64 wh, .int .i64 off, .string dt]] W fun e w' =>
      e = .returned (.agg #[.string y0, .int .i64 y1, .int .i32 y2, .int .i64 y3]) ∧ Rd 46 rb S i' w' ∧ Keep rb W.heap.size W w' := by
  have HH := Lib.hid H
  clear H
  go_enter Tryd.func12, Tryd.ntmps12
  go_wp2_with fail
  have hb : Below W.heap.size W _ := (((Below.refl _ W).alloc (Nat.le_refl _) (.cells #[.int .i64 0, .int .i64 sz, .int .i64 wh, .int .i64 off, .string dt] 25)).alloc (by simp) (.cells #[.string ⟨#[]⟩, .int .i64 0, .int .i32 0, .int .i64 0] 28))
  refine (HH.out _ hb).mono ?_
  rintro e w2 ⟨rfl, hR2, hk2⟩
  have hRes2 : w2.heap[W.heap.size + 1]? = some (.cells #[.string ⟨#[]⟩, .int .i64 0, .int .i32 0, .int .i64 0] 28 (0, 0)) := (two_blocks2 hk2 (by omega)).2
  have HW2 : Hid (Keep rb W.heap.size W w2) := (Keep.of_below hb).trans (hk2.mono (by simp; omega))
  obtain ⟨⟨r1, r2, r3, r4⟩, f1, f2, f3, f4⟩ := cells4 hRes2
  have HRes2 := Lib.hid hRes2
  have HR2 := Lib.hid hR2
  clear hk2 hR2 hRes2 hb
  go_wp2
  refine ans_close (p := 4) rfl rfl HRes2.out rfl ?_
  intro w5 h5
  have l2 := lt_of_heap HRes2.out
  exact ⟨rfl, HR2.out.kept h5 HR2.out.lt (by omega), HW2.out.trans ((h5.mono (by omega)).other (by omega))⟩

theorem s_call1 (rb : Nat) (S : Value) (i' : Nat) (y0 : ByteArray) (y1 y2 y3 : Int) (sz wh off : Int) (dt : ByteArray) (W : World) (lr : rb < W.heap.size)
    (H : ∀ w1, Below W.heap.size W w1 → Calls Tryd.prog 15 #[.iface 43 (.pointer (some ⟨rb, 0, none⟩)), .agg #[.int .i64 1, .int .i64 sz, .int .i64 wh, .int .i64 off, .string dt]] w1 fun e w' =>
      e = .returned (.agg #[.string y0, .int .i64 y1, .int .i32 y2, .int .i64 y3]) ∧ Rd 46 rb S i' w' ∧ Keep rb w1.heap.size w1 w') :
    Calls Tryd.prog 12 #[.iface 43 (.pointer (some ⟨rb, 0, none⟩)), .agg #[.int .i64 1, .int .i64 sz, .int .i64 wh, .int .i64 off, .string dt]] W fun e w' =>
      e = .returned (.agg #[.string y0, .int .i64 y1, .int .i32 y2, .int .i64 y3]) ∧ Rd 46 rb S i' w' ∧ Keep rb W.heap.size W w' := by
  have HH := Lib.hid H
  clear H
  go_enter Tryd.func12, Tryd.ntmps12
  go_wp2_with fail
  have hb : Below W.heap.size W _ := (((Below.refl _ W).alloc (Nat.le_refl _) (.cells #[.int .i64 1, .int .i64 sz, .int .i64 wh, .int .i64 off, .string dt] 25)).alloc (by simp) (.cells #[.string ⟨#[]⟩, .int .i64 0, .int .i32 0, .int .i64 0] 28))
  refine (HH.out _ hb).mono ?_
  rintro e w2 ⟨rfl, hR2, hk2⟩
  have hRes2 : w2.heap[W.heap.size + 1]? = some (.cells #[.string ⟨#[]⟩, .int .i64 0, .int .i32 0, .int .i64 0] 28 (0, 0)) := (two_blocks2 hk2 (by omega)).2
  have HW2 : Hid (Keep rb W.heap.size W w2) := (Keep.of_below hb).trans (hk2.mono (by simp; omega))
  obtain ⟨⟨r1, r2, r3, r4⟩, f1, f2, f3, f4⟩ := cells4 hRes2
  have HRes2 := Lib.hid hRes2
  have HR2 := Lib.hid hR2
  clear hk2 hR2 hRes2 hb
  go_wp2
  refine ans_close (p := 4) rfl rfl HRes2.out rfl ?_
  intro w5 h5
  have l2 := lt_of_heap HRes2.out
  exact ⟨rfl, HR2.out.kept h5 HR2.out.lt (by omega), HW2.out.trans ((h5.mono (by omega)).other (by omega))⟩

theorem s_call2 (rb : Nat) (S : Value) (i' : Nat) (y0 : ByteArray) (y1 y2 y3 : Int) (sz wh off : Int) (dt : ByteArray) (W : World) (lr : rb < W.heap.size)
    (H : ∀ w1, Below W.heap.size W w1 → Calls Tryd.prog 16 #[.iface 43 (.pointer (some ⟨rb, 0, none⟩)), .agg #[.int .i64 2, .int .i64 sz, .int .i64 wh, .int .i64 off, .string dt]] w1 fun e w' =>
      e = .returned (.agg #[.string y0, .int .i64 y1, .int .i32 y2, .int .i64 y3]) ∧ Rd 46 rb S i' w' ∧ Keep rb w1.heap.size w1 w') :
    Calls Tryd.prog 12 #[.iface 43 (.pointer (some ⟨rb, 0, none⟩)), .agg #[.int .i64 2, .int .i64 sz, .int .i64 wh, .int .i64 off, .string dt]] W fun e w' =>
      e = .returned (.agg #[.string y0, .int .i64 y1, .int .i32 y2, .int .i64 y3]) ∧ Rd 46 rb S i' w' ∧ Keep rb W.heap.size W w' := by
  have HH := Lib.hid H
  clear H
  go_enter Tryd.func12, Tryd.ntmps12
  go_wp2_with fail
  have hb : Below W.heap.size W _ := (((Below.refl _ W).alloc (Nat.le_refl _) (.cells #[.int .i64 2, .int .i64 sz, .int .i64 wh, .int .i64 off, .string dt] 25)).alloc (by simp) (.cells #[.string ⟨#[]⟩, .int .i64 0, .int .i32 0, .int .i64 0] 28))
  refine (HH.out _ hb).mono ?_
  rintro e w2 ⟨rfl, hR2, hk2⟩
  have hRes2 : w2.heap[W.heap.size + 1]? = some (.cells #[.string ⟨#[]⟩, .int .i64 0, .int .i32 0, .int .i64 0] 28 (0, 0)) := (two_blocks2 hk2 (by omega)).2
  have HW2 : Hid (Keep rb W.heap.size W w2) := (Keep.of_below hb).trans (hk2.mono (by simp; omega))
  obtain ⟨⟨r1, r2, r3, r4⟩, f1, f2, f3, f4⟩ := cells4 hRes2
  have HRes2 := Lib.hid hRes2
  have HR2 := Lib.hid hR2
  clear hk2 hR2 hRes2 hb
  go_wp2
  refine ans_close (p := 4) rfl rfl HRes2.out rfl ?_
  intro w5 h5
  have l2 := lt_of_heap HRes2.out
  exact ⟨rfl, HR2.out.kept h5 HR2.out.lt (by omega), HW2.out.trans ((h5.mono (by omega)).other (by omega))⟩

theorem s_call6 (rb : Nat) (S : Value) (i' : Nat) (y0 : ByteArray) (y1 y2 y3 : Int) (sz wh off : Int) (dt : ByteArray) (W : World) (lr : rb < W.heap.size)
    (H : ∀ w1, Below W.heap.size W w1 → Calls Tryd.prog 17 #[.iface 43 (.pointer (some ⟨rb, 0, none⟩)), .agg #[.int .i64 6, .int .i64 sz, .int .i64 wh, .int .i64 off, .string dt]] w1 fun e w' =>
      e = .returned (.agg #[.string y0, .int .i64 y1, .int .i32 y2, .int .i64 y3]) ∧ Rd 46 rb S i' w' ∧ Keep rb w1.heap.size w1 w') :
    Calls Tryd.prog 12 #[.iface 43 (.pointer (some ⟨rb, 0, none⟩)), .agg #[.int .i64 6, .int .i64 sz, .int .i64 wh, .int .i64 off, .string dt]] W fun e w' =>
      e = .returned (.agg #[.string y0, .int .i64 y1, .int .i32 y2, .int .i64 y3]) ∧ Rd 46 rb S i' w' ∧ Keep rb W.heap.size W w' := by
  have HH := Lib.hid H
  clear H
  go_enter Tryd.func12, Tryd.ntmps12
  go_wp2_with fail
  have hb : Below W.heap.size W _ := (((Below.refl _ W).alloc (Nat.le_refl _) (.cells #[.int .i64 6, .int .i64 sz, .int .i64 wh, .int .i64 off, .string dt] 25)).alloc (by simp) (.cells #[.string ⟨#[]⟩, .int .i64 0, .int .i32 0, .int .i64 0] 28))
  refine (HH.out _ hb).mono ?_
  rintro e w2 ⟨rfl, hR2, hk2⟩
  have hRes2 : w2.heap[W.heap.size + 1]? = some (.cells #[.string ⟨#[]⟩, .int .i64 0, .int .i32 0, .int .i64 0] 28 (0, 0)) := (two_blocks2 hk2 (by omega)).2
  have HW2 : Hid (Keep rb W.heap.size W w2) := (Keep.of_below hb).trans (hk2.mono (by simp; omega))
  obtain ⟨⟨r1, r2, r3, r4⟩, f1, f2, f3, f4⟩ := cells4 hRes2
  have HRes2 := Lib.hid hRes2
  have HR2 := Lib.hid hR2
  clear hk2 hR2 hRes2 hb
  go_wp2
  refine ans_close (p := 4) rfl rfl HRes2.out rfl ?_
  intro w5 h5
  have l2 := lt_of_heap HRes2.out
  exact ⟨rfl, HR2.out.kept h5 HR2.out.lt (by omega), HW2.out.trans ((h5.mono (by omega)).other (by omega))⟩

theorem b_call0 (rb : Nat) (S : Value) (i' : Nat) (y0 : ByteArray) (y1 y2 y3 : Int) (sz wh off : Int) (dt : ByteArray) (W : World) (lr : rb < W.heap.size)
    (H : ∀ w1, Below W.heap.size W w1 → Calls Tryd.prog 15 #[.iface 37 (.pointer (some ⟨rb, 0, none⟩)), .agg #[.int .i64 0, .int .i64 sz, .int .i64 wh, .int .i64 off, .string dt]] w1 fun e w' =>
      e = .returned (.agg #[.string y0, .int .i64 y1, .int .i32 y2, .int .i64 y3]) ∧ Rd 40 rb S i' w' ∧ Keep rb w1.heap.size w1 w') :
    Calls Tryd.prog 12 #[.iface 37 (.pointer (some ⟨rb, 0, none⟩)), .agg #[.int .i64 0, .int .i64 sz, .int .i64 wh, .int .i64 off, .string dt]] W fun e w' =>
      e = .returned (.agg #[.string y0, .int .i64 y1, .int .i32 y2, .int .i64 y3]) ∧ Rd 40 rb S i' w' ∧ Keep rb W.heap.size W w' := by
  have HH := Lib.hid H
  clear H
  go_enter Tryd.func12, Tryd.ntmps12
  go_wp2_with fail
  have hb : Below W.heap.size W _ := (((Below.refl _ W).alloc (Nat.le_refl _) (.cells #[.int .i64 0, .int .i64 sz, .int .i64 wh, .int .i64 off, .string dt] 25)).alloc (by simp) (.cells #[.string ⟨#[]⟩, .int .i64 0, .int .i32 0, .int .i64 0] 28))
  refine (HH.out _ hb).mono ?_
  rintro e w2 ⟨rfl, hR2, hk2⟩
  have hRes2 : w2.heap[W.heap.size + 1]? = some (.cells #[.string ⟨#[]⟩, .int .i64 0, .int .i32 0, .int .i64 0] 28 (0, 0)) := (two_blocks2 hk2 (by omega)).2
  have HW2 : Hid (Keep rb W.heap.size W w2) := (Keep.of_below hb).trans (hk2.mono (by simp; omega))
  obtain ⟨⟨r1, r2, r3, r4⟩, f1, f2, f3, f4⟩ := cells4 hRes2
  have HRes2 := Lib.hid hRes2
  have HR2 := Lib.hid hR2
  clear hk2 hR2 hRes2 hb
  go_wp2
  refine ans_close (p := 4) rfl rfl HRes2.out rfl ?_
  intro w5 h5
  have l2 := lt_of_heap HRes2.out
  exact ⟨rfl, HR2.out.kept h5 HR2.out.lt (by omega), HW2.out.trans ((h5.mono (by omega)).other (by omega))⟩

theorem b_call1 (rb : Nat) (S : Value) (i' : Nat) (y0 : ByteArray) (y1 y2 y3 : Int) (sz wh off : Int) (dt : ByteArray) (W : World) (lr : rb < W.heap.size)
    (H : ∀ w1, Below W.heap.size W w1 → Calls Tryd.prog 15 #[.iface 37 (.pointer (some ⟨rb, 0, none⟩)), .agg #[.int .i64 1, .int .i64 sz, .int .i64 wh, .int .i64 off, .string dt]] w1 fun e w' =>
      e = .returned (.agg #[.string y0, .int .i64 y1, .int .i32 y2, .int .i64 y3]) ∧ Rd 40 rb S i' w' ∧ Keep rb w1.heap.size w1 w') :
    Calls Tryd.prog 12 #[.iface 37 (.pointer (some ⟨rb, 0, none⟩)), .agg #[.int .i64 1, .int .i64 sz, .int .i64 wh, .int .i64 off, .string dt]] W fun e w' =>
      e = .returned (.agg #[.string y0, .int .i64 y1, .int .i32 y2, .int .i64 y3]) ∧ Rd 40 rb S i' w' ∧ Keep rb W.heap.size W w' := by
  have HH := Lib.hid H
  clear H
  go_enter Tryd.func12, Tryd.ntmps12
  go_wp2_with fail
  have hb : Below W.heap.size W _ := (((Below.refl _ W).alloc (Nat.le_refl _) (.cells #[.int .i64 1, .int .i64 sz, .int .i64 wh, .int .i64 off, .string dt] 25)).alloc (by simp) (.cells #[.string ⟨#[]⟩, .int .i64 0, .int .i32 0, .int .i64 0] 28))
  refine (HH.out _ hb).mono ?_
  rintro e w2 ⟨rfl, hR2, hk2⟩
  have hRes2 : w2.heap[W.heap.size + 1]? = some (.cells #[.string ⟨#[]⟩, .int .i64 0, .int .i32 0, .int .i64 0] 28 (0, 0)) := (two_blocks2 hk2 (by omega)).2
  have HW2 : Hid (Keep rb W.heap.size W w2) := (Keep.of_below hb).trans (hk2.mono (by simp; omega))
  obtain ⟨⟨r1, r2, r3, r4⟩, f1, f2, f3, f4⟩ := cells4 hRes2
  have HRes2 := Lib.hid hRes2
  have HR2 := Lib.hid hR2
  clear hk2 hR2 hRes2 hb
  go_wp2
  refine ans_close (p := 4) rfl rfl HRes2.out rfl ?_
  intro w5 h5
  have l2 := lt_of_heap HRes2.out
  exact ⟨rfl, HR2.out.kept h5 HR2.out.lt (by omega), HW2.out.trans ((h5.mono (by omega)).other (by omega))⟩

theorem b_call2 (rb : Nat) (S : Value) (i' : Nat) (y0 : ByteArray) (y1 y2 y3 : Int) (sz wh off : Int) (dt : ByteArray) (W : World) (lr : rb < W.heap.size)
    (H : ∀ w1, Below W.heap.size W w1 → Calls Tryd.prog 16 #[.iface 37 (.pointer (some ⟨rb, 0, none⟩)), .agg #[.int .i64 2, .int .i64 sz, .int .i64 wh, .int .i64 off, .string dt]] w1 fun e w' =>
      e = .returned (.agg #[.string y0, .int .i64 y1, .int .i32 y2, .int .i64 y3]) ∧ Rd 40 rb S i' w' ∧ Keep rb w1.heap.size w1 w') :
    Calls Tryd.prog 12 #[.iface 37 (.pointer (some ⟨rb, 0, none⟩)), .agg #[.int .i64 2, .int .i64 sz, .int .i64 wh, .int .i64 off, .string dt]] W fun e w' =>
      e = .returned (.agg #[.string y0, .int .i64 y1, .int .i32 y2, .int .i64 y3]) ∧ Rd 40 rb S i' w' ∧ Keep rb W.heap.size W w' := by
  have HH := Lib.hid H
  clear H
  go_enter Tryd.func12, Tryd.ntmps12
  go_wp2_with fail
  have hb : Below W.heap.size W _ := (((Below.refl _ W).alloc (Nat.le_refl _) (.cells #[.int .i64 2, .int .i64 sz, .int .i64 wh, .int .i64 off, .string dt] 25)).alloc (by simp) (.cells #[.string ⟨#[]⟩, .int .i64 0, .int .i32 0, .int .i64 0] 28))
  refine (HH.out _ hb).mono ?_
  rintro e w2 ⟨rfl, hR2, hk2⟩
  have hRes2 : w2.heap[W.heap.size + 1]? = some (.cells #[.string ⟨#[]⟩, .int .i64 0, .int .i32 0, .int .i64 0] 28 (0, 0)) := (two_blocks2 hk2 (by omega)).2
  have HW2 : Hid (Keep rb W.heap.size W w2) := (Keep.of_below hb).trans (hk2.mono (by simp; omega))
  obtain ⟨⟨r1, r2, r3, r4⟩, f1, f2, f3, f4⟩ := cells4 hRes2
  have HRes2 := Lib.hid hRes2
  have HR2 := Lib.hid hR2
  clear hk2 hR2 hRes2 hb
  go_wp2
  refine ans_close (p := 4) rfl rfl HRes2.out rfl ?_
  intro w5 h5
  have l2 := lt_of_heap HRes2.out
  exact ⟨rfl, HR2.out.kept h5 HR2.out.lt (by omega), HW2.out.trans ((h5.mono (by omega)).other (by omega))⟩

theorem b_call6 (rb : Nat) (S : Value) (i' : Nat) (y0 : ByteArray) (y1 y2 y3 : Int) (sz wh off : Int) (dt : ByteArray) (W : World) (lr : rb < W.heap.size)
    (H : ∀ w1, Below W.heap.size W w1 → Calls Tryd.prog 17 #[.iface 37 (.pointer (some ⟨rb, 0, none⟩)), .agg #[.int .i64 6, .int .i64 sz, .int .i64 wh, .int .i64 off, .string dt]] w1 fun e w' =>
      e = .returned (.agg #[.string y0, .int .i64 y1, .int .i32 y2, .int .i64 y3]) ∧ Rd 40 rb S i' w' ∧ Keep rb w1.heap.size w1 w') :
    Calls Tryd.prog 12 #[.iface 37 (.pointer (some ⟨rb, 0, none⟩)), .agg #[.int .i64 6, .int .i64 sz, .int .i64 wh, .int .i64 off, .string dt]] W fun e w' =>
      e = .returned (.agg #[.string y0, .int .i64 y1, .int .i32 y2, .int .i64 y3]) ∧ Rd 40 rb S i' w' ∧ Keep rb W.heap.size W w' := by
  have HH := Lib.hid H
  clear H
  go_enter Tryd.func12, Tryd.ntmps12
  go_wp2_with fail
  have hb : Below W.heap.size W _ := (((Below.refl _ W).alloc (Nat.le_refl _) (.cells #[.int .i64 6, .int .i64 sz, .int .i64 wh, .int .i64 off, .string dt] 25)).alloc (by simp) (.cells #[.string ⟨#[]⟩, .int .i64 0, .int .i32 0, .int .i64 0] 28))
  refine (HH.out _ hb).mono ?_
  rintro e w2 ⟨rfl, hR2, hk2⟩
  have hRes2 : w2.heap[W.heap.size + 1]? = some (.cells #[.string ⟨#[]⟩, .int .i64 0, .int .i32 0, .int .i64 0] 28 (0, 0)) := (two_blocks2 hk2 (by omega)).2
  have HW2 : Hid (Keep rb W.heap.size W w2) := (Keep.of_below hb).trans (hk2.mono (by simp; omega))
  obtain ⟨⟨r1, r2, r3, r4⟩, f1, f2, f3, f4⟩ := cells4 hRes2
  have HRes2 := Lib.hid hRes2
  have HR2 := Lib.hid hR2
  clear hk2 hR2 hRes2 hb
  go_wp2
  refine ans_close (p := 4) rfl rfl HRes2.out rfl ?_
  intro w5 h5
  have l2 := lt_of_heap HRes2.out
  exact ⟨rfl, HR2.out.kept h5 HR2.out.lt (by omega), HW2.out.trans ((h5.mono (by omega)).other (by omega))⟩
end Go.Proofs.YthjecnbaconfjaaDoor
