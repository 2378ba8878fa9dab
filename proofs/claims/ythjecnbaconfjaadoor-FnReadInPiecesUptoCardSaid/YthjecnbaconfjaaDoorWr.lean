/- impl.read, impl.one and impl.other over a reader of a string: what they return, by the contract of the method that they call. Printed by gen_wr.py. -/
import Derived.Test.YthjecnbaconfjaaDoorWa
namespace Go.Proofs.YthjecnbaconfjaaDoor
open Go.RowKit

set_option maxHeartbeats 400000 in
theorem s_read_core (rb : Nat) (S : Value) (i' k c : Nat) (d : List UInt8) (sz wh off : Int) (dt : ByteArray) (ea : Addr) (W : World) (hE : Eof ea W) (h0 : 0 < rb) (lr : rb < W.heap.size) (hc1 : c ≤ 1) (hd : d.length = k) (hkn : k ≤ clamp sz)
    (h1 : -9223372036854775808 ≤ sz) (h2 : sz ≤ 9223372036854775807)
    (H : ∀ w1 bb, Below W.heap.size W w1 → Buf bb (clamp sz) w1 → W.heap.size ≤ bb →
      Calls Tryd.prog 51 #[.pointer (some ⟨rb, 0, none⟩), .slice (some ⟨bb, 0, none⟩) (clamp sz) (clamp sz)] w1 fun e w' => e = .returned (.tuple #[.int .i64 (k : Int), errV ea c]) ∧ Rd 46 rb S i' w' ∧ Filled bb d w' ∧ Keep rb bb w1 w') :
    Calls Tryd.prog 15 #[.iface 43 (.pointer (some ⟨rb, 0, none⟩)), .agg #[.int .i64 0, .int .i64 sz, .int .i64 wh, .int .i64 off, .string dt]] W fun e w' =>
      e = .returned (.agg #[.string ⟨d.toArray⟩, .int .i64 (k : Int), .int .i32 0, .int .i64 (c : Int)]) ∧ Rd 46 rb S i' w' ∧ Keep rb W.heap.size W w' := by
  have HE := Lib.hid hE
  have HL := Lib.hid hd
  have HH := Lib.hid H
  have hcl := clamp_le sz
  clear hE hd H
  go_enter Tryd.func15, Tryd.ntmps15
  go_wp2_with fail
  refine (buffer_any _ _ h1 h2).mono ?_
  rintro e w1 ⟨rfl, hb1, hk1⟩
  generalize clamp sz = n at *
  obtain ⟨hc, hr, hb, hz⟩ := two_blocks hk1
  have HK1 : Hid (Keep rb W.heap.size W w1) := Keep.of_below hb
  have HB := Lib.hid hb
  have HB1 : Hid (Buf (W.heap.size + 2) n w1) := by simpa [Hid] using hb1
  have c0 : w1.cell? ⟨W.heap.size, 0, none⟩ = some (.int .i64 0) := cell_at hc 0
  have c3 : w1.cell? ⟨W.heap.size, 3, none⟩ = some (.int .i64 off) := cell_at hc 3
  have HRes := Lib.hid hr
  clear hc hr hb hk1 hb1
  go_wp2_with fail
  refine (HH.out w1 (W.heap.size + 2) HB.out HB1.out (by omega)).mono ?_
  rintro e w2 ⟨rfl, hR2, hF2, hk2⟩
  have HE2 : Hid (Eof ea w2) := (HE.out.kept HK1.out (by omega) (by omega)).kept hk2 (by omega) (by omega)
  have hRes2 := (hk2.block _ (by omega) (by omega)).trans HRes.out
  have hconv := fun cap => conv_of_filled (w := w2.drew) (bb := W.heap.size + 2) (cap := cap) (k := k) (d := d) hF2 HL.out
  obtain ⟨⟨r1, r2, r3, r4⟩, f1, f2, f3, f4⟩ := cells4 hRes2
  have HRes2 := Lib.hid hRes2
  have HK2 := Lib.hid hk2
  have HR2 := Lib.hid hR2
  clear hk2 hR2 hF2 c0 c3 hRes2
  go_wp2_with fail
  go_region_with (go_at_call 19; refine (kind_errV ea c _ hc1 (by exact HE2.out)).mono ?_; rintro e w3 ⟨rfl, rfl⟩)
  go_wp2
  all_goals
    refine ans_close_drew (p := 4) rfl rfl HRes2.out rfl ?_
    intro w5 h5
    have l2 := lt_of_heap HRes2.out
    exact ⟨rfl, HR2.out.kept h5 HR2.out.lt (by omega), (HK1.out.trans (HK2.out.mono (by omega))).trans ((h5.mono (by omega)).other (by omega))⟩

set_option maxHeartbeats 400000 in
theorem s_readAt_core (rb : Nat) (S : Value) (i' k c : Nat) (d : List UInt8) (sz wh off : Int) (dt : ByteArray) (ea : Addr) (W : World) (hE : Eof ea W) (h0 : 0 < rb) (lr : rb < W.heap.size) (hc1 : c ≤ 1) (hd : d.length = k) (hkn : k ≤ clamp sz)
    (h1 : -9223372036854775808 ≤ sz) (h2 : sz ≤ 9223372036854775807)
    (H : ∀ w1 bb, Below W.heap.size W w1 → Buf bb (clamp sz) w1 → W.heap.size ≤ bb →
      Calls Tryd.prog 52 #[.pointer (some ⟨rb, 0, none⟩), .slice (some ⟨bb, 0, none⟩) (clamp sz) (clamp sz), .int .i64 off] w1 fun e w' => e = .returned (.tuple #[.int .i64 (k : Int), errV ea c]) ∧ Rd 46 rb S i' w' ∧ Filled bb d w' ∧ Keep rb bb w1 w') :
    Calls Tryd.prog 15 #[.iface 43 (.pointer (some ⟨rb, 0, none⟩)), .agg #[.int .i64 1, .int .i64 sz, .int .i64 wh, .int .i64 off, .string dt]] W fun e w' =>
      e = .returned (.agg #[.string ⟨d.toArray⟩, .int .i64 (k : Int), .int .i32 0, .int .i64 (c : Int)]) ∧ Rd 46 rb S i' w' ∧ Keep rb W.heap.size W w' := by
  have HE := Lib.hid hE
  have HL := Lib.hid hd
  have HH := Lib.hid H
  have hcl := clamp_le sz
  clear hE hd H
  go_enter Tryd.func15, Tryd.ntmps15
  go_wp2_with fail
  refine (buffer_any _ _ h1 h2).mono ?_
  rintro e w1 ⟨rfl, hb1, hk1⟩
  generalize clamp sz = n at *
  obtain ⟨hc, hr, hb, hz⟩ := two_blocks hk1
  have HK1 : Hid (Keep rb W.heap.size W w1) := Keep.of_below hb
  have HB := Lib.hid hb
  have HB1 : Hid (Buf (W.heap.size + 2) n w1) := by simpa [Hid] using hb1
  have c0 : w1.cell? ⟨W.heap.size, 0, none⟩ = some (.int .i64 1) := cell_at hc 0
  have c3 : w1.cell? ⟨W.heap.size, 3, none⟩ = some (.int .i64 off) := cell_at hc 3
  have HRes := Lib.hid hr
  clear hc hr hb hk1 hb1
  go_wp2_with fail
  refine (HH.out w1 (W.heap.size + 2) HB.out HB1.out (by omega)).mono ?_
  rintro e w2 ⟨rfl, hR2, hF2, hk2⟩
  have HE2 : Hid (Eof ea w2) := (HE.out.kept HK1.out (by omega) (by omega)).kept hk2 (by omega) (by omega)
  have hRes2 := (hk2.block _ (by omega) (by omega)).trans HRes.out
  have hconv := fun cap => conv_of_filled (w := w2.drew) (bb := W.heap.size + 2) (cap := cap) (k := k) (d := d) hF2 HL.out
  obtain ⟨⟨r1, r2, r3, r4⟩, f1, f2, f3, f4⟩ := cells4 hRes2
  have HRes2 := Lib.hid hRes2
  have HK2 := Lib.hid hk2
  have HR2 := Lib.hid hR2
  clear hk2 hR2 hF2 c0 c3 hRes2
  go_wp2_with fail
  go_region_with (go_at_call 19; refine (kind_errV ea c _ hc1 (by exact HE2.out)).mono ?_; rintro e w3 ⟨rfl, rfl⟩)
  go_wp2
  all_goals
    refine ans_close_drew (p := 4) rfl rfl HRes2.out rfl ?_
    intro w5 h5
    have l2 := lt_of_heap HRes2.out
    exact ⟨rfl, HR2.out.kept h5 HR2.out.lt (by omega), (HK1.out.trans (HK2.out.mono (by omega))).trans ((h5.mono (by omega)).other (by omega))⟩

theorem s_one_in (rb : Nat) (S : Value) (i' : Nat) (x : UInt8) (sz wh off : Int) (dt : ByteArray) (ea : Addr) (W : World) (hE : Eof ea W) (h0 : 0 < rb) (lr : rb < W.heap.size)
    (H : ∀ w1, Below W.heap.size W w1 → Calls Tryd.prog 53 #[.pointer (some ⟨rb, 0, none⟩)] w1 fun e w' => e = .returned (.tuple #[.int .u8 ((x.toNat : Nat) : Int), .nilIface]) ∧ Rd 46 rb S i' w' ∧ Keep rb w1.heap.size w1 w') :
    Calls Tryd.prog 16 #[.iface 43 (.pointer (some ⟨rb, 0, none⟩)), .agg #[.int .i64 2, .int .i64 sz, .int .i64 wh, .int .i64 off, .string dt]] W fun e w' =>
      e = .returned (.agg #[.string ⟨#[x]⟩, .int .i64 0, .int .i32 0, .int .i64 0]) ∧ Rd 46 rb S i' w' ∧ Keep rb W.heap.size W w' := by
  have HE := Lib.hid hE
  have HH := Lib.hid H
  clear hE H
  go_enter Tryd.func16, Tryd.ntmps16
  go_wp2_with fail
  have hb : Below W.heap.size W _ := (((Below.refl _ W).alloc (Nat.le_refl _) (.cells #[.int .i64 2, .int .i64 sz, .int .i64 wh, .int .i64 off, .string dt] 25)).alloc (by simp) (.cells #[.string ⟨#[]⟩, .int .i64 0, .int .i32 0, .int .i64 0] 28))
  refine (HH.out _ hb).mono ?_
  rintro e w2 ⟨rfl, hR2, hk2⟩
  have hRes2 : w2.heap[W.heap.size + 1]? = some (.cells #[.string ⟨#[]⟩, .int .i64 0, .int .i32 0, .int .i64 0] 28 (0, 0)) := (two_blocks2 hk2 (by omega)).2
  have hW2 : Keep rb W.heap.size W w2 := (Keep.of_below hb).trans (hk2.mono (by simp; omega))
  have hs2 : W.heap.size + 2 ≤ w2.heap.size := by have := hk2.size; simp at this; omega
  have hE2 : Eof ea w2 := HE.out.kept hW2 (by omega) (by omega)
  have HE2 := Lib.hid hE2
  have hconv := conv_one x
  obtain ⟨⟨r1, r2, r3, r4⟩, f1, f2, f3, f4⟩ := cells4 hRes2
  have HRes2 := Lib.hid hRes2
  have HW2 := Lib.hid hW2
  have HR2 := Lib.hid hR2
  have HK2 := Lib.hid hk2
  clear hk2 hR2 hRes2 hW2 hE2 hb
  have hlt : W.heap.size + 1 < w2.heap.size := by omega
  go_wp2
  refine ans_close_alloc (p := 4) rfl rfl HRes2.out rfl ?_
  intro w5 h5
  exact ⟨rfl, HR2.out.kept h5 HR2.out.lt (by omega), HW2.out.trans ((h5.mono (by omega)).other (by omega))⟩

theorem s_one_end (rb : Nat) (S : Value) (i' : Nat) (x : UInt8) (sz wh off : Int) (dt : ByteArray) (ea : Addr) (W : World) (hE : Eof ea W) (h0 : 0 < rb) (lr : rb < W.heap.size)
    (H : ∀ w1, Below W.heap.size W w1 → Calls Tryd.prog 53 #[.pointer (some ⟨rb, 0, none⟩)] w1 fun e w' => e = .returned (.tuple #[.int .u8 ((x.toNat : Nat) : Int), .iface 70 (.pointer (some ea))]) ∧ Rd 46 rb S i' w' ∧ Keep rb w1.heap.size w1 w') :
    Calls Tryd.prog 16 #[.iface 43 (.pointer (some ⟨rb, 0, none⟩)), .agg #[.int .i64 2, .int .i64 sz, .int .i64 wh, .int .i64 off, .string dt]] W fun e w' =>
      e = .returned (.agg #[.string ⟨#[]⟩, .int .i64 0, .int .i32 0, .int .i64 1]) ∧ Rd 46 rb S i' w' ∧ Keep rb W.heap.size W w' := by
  have HE := Lib.hid hE
  have HH := Lib.hid H
  clear hE H
  go_enter Tryd.func16, Tryd.ntmps16
  go_wp2_with fail
  have hb : Below W.heap.size W _ := (((Below.refl _ W).alloc (Nat.le_refl _) (.cells #[.int .i64 2, .int .i64 sz, .int .i64 wh, .int .i64 off, .string dt] 25)).alloc (by simp) (.cells #[.string ⟨#[]⟩, .int .i64 0, .int .i32 0, .int .i64 0] 28))
  refine (HH.out _ hb).mono ?_
  rintro e w2 ⟨rfl, hR2, hk2⟩
  have hRes2 : w2.heap[W.heap.size + 1]? = some (.cells #[.string ⟨#[]⟩, .int .i64 0, .int .i32 0, .int .i64 0] 28 (0, 0)) := (two_blocks2 hk2 (by omega)).2
  have hW2 : Keep rb W.heap.size W w2 := (Keep.of_below hb).trans (hk2.mono (by simp; omega))
  have hs2 : W.heap.size + 2 ≤ w2.heap.size := by have := hk2.size; simp at this; omega
  have hE2 : Eof ea w2 := HE.out.kept hW2 (by omega) (by omega)
  have HE2 := Lib.hid hE2
  have hconv := conv_one x
  obtain ⟨⟨r1, r2, r3, r4⟩, f1, f2, f3, f4⟩ := cells4 hRes2
  have HRes2 := Lib.hid hRes2
  have HW2 := Lib.hid hW2
  have HR2 := Lib.hid hR2
  have HK2 := Lib.hid hk2
  clear hk2 hR2 hRes2 hW2 hE2 hb
  go_wp2_with (go_at_call 19; refine (kind_eof ea _ (by exact HE2.out)).mono ?_; rintro e w3 ⟨rfl, rfl⟩)
  refine ans_close (p := 4) rfl rfl HRes2.out rfl ?_
  intro w5 h5
  have l2 := lt_of_heap HRes2.out
  exact ⟨rfl, HR2.out.kept h5 HR2.out.lt (by omega), HW2.out.trans ((h5.mono (by omega)).other (by omega))⟩

theorem s_other_seek (rb : Nat) (S : Value) (off : Nat) (sz : Int) (dt : ByteArray) (W : World) (lr : rb < W.heap.size)
    (H : ∀ w1, Below W.heap.size W w1 → Calls Tryd.prog 55 #[.pointer (some ⟨rb, 0, none⟩), .int .i64 off, .int .i64 0] w1 fun e w' => e = .returned (.tuple #[.int .i64 off, .nilIface]) ∧ Rd 46 rb S off w' ∧ Keep rb w1.heap.size w1 w') :
    Calls Tryd.prog 17 #[.iface 43 (.pointer (some ⟨rb, 0, none⟩)), .agg #[.int .i64 6, .int .i64 sz, .int .i64 0, .int .i64 off, .string dt]] W fun e w' =>
      e = .returned (.agg #[.string ⟨#[]⟩, .int .i64 off, .int .i32 0, .int .i64 0]) ∧ Rd 46 rb S off w' ∧ Keep rb W.heap.size W w' := by
  have HH := Lib.hid H
  clear H
  go_enter Tryd.func17, Tryd.ntmps17
  go_wp2_with fail
  have hb : Below W.heap.size W _ := (((Below.refl _ W).alloc (Nat.le_refl _) (.cells #[.int .i64 6, .int .i64 sz, .int .i64 0, .int .i64 off, .string dt] 25)).alloc (by simp) (.cells #[.string ⟨#[]⟩, .int .i64 0, .int .i32 0, .int .i64 0] 28))
  refine (HH.out _ hb).mono ?_
  rintro e w2 ⟨rfl, hR2, hk2⟩
  have hRes2 : w2.heap[W.heap.size + 1]? = some (.cells #[.string ⟨#[]⟩, .int .i64 0, .int .i32 0, .int .i64 0] 28 (0, 0)) := (two_blocks2 hk2 (by omega)).2
  have HW2 : Hid (Keep rb W.heap.size W w2) := (Keep.of_below hb).trans (hk2.mono (by simp; omega))
  obtain ⟨⟨r1, r2, r3, r4⟩, f1, f2, f3, f4⟩ := cells4 hRes2
  have HRes2 := Lib.hid hRes2
  have HR2 := Lib.hid hR2
  clear hk2 hR2 hRes2 hb
  go_wp2
  refine ans_close (p := 4) rfl rfl HRes2.out rfl ?_
  intro w5 h5
  have l2 := lt_of_heap HRes2.out
  exact ⟨rfl, HR2.out.kept h5 HR2.out.lt (by omega), HW2.out.trans ((h5.mono (by omega)).other (by omega))⟩
end Go.Proofs.YthjecnbaconfjaaDoor
