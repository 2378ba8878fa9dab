/- impl.call over both readers, at every call that the three laws make: what it returns, and where the reader reads next. Conditions: the call is one of Read, ReadByte, ReadAt and Seek from the beginning to a place within the data; the reader's block, its data and io.EOF lie as stated. Printed by gen_wd.py. -/
import Derived.Test.YthjecnbaconfjaaDoorWr
import Derived.Test.YthjecnbaconfjaaDoorWq
import Derived.Test.YthjecnbaconfjaaDoorWc
namespace Go.Proofs.YthjecnbaconfjaaDoor
open Go.RowKit

/-- A call, an answer. -/
structure Cl where
  op : Int
  sz : Int
  wh : Int
  off : Int
  dt : ByteArray
structure An where
  d : List UInt8
  n : Int
  r : Int
  e : Nat
def Cl.vals (c : Cl) : List Value := [.int .i64 c.op, .int .i64 c.sz, .int .i64 c.wh, .int .i64 c.off, .string c.dt]
def An.vals (a : An) : List Value := [.string ⟨a.d.toArray⟩, .int .i64 a.n, .int .i32 a.r, .int .i64 (a.e : Int)]

/-- The calls that are walked here. -/
def okCl (s : ByteArray) (c : Cl) : Prop :=
  (-9223372036854775808 ≤ c.sz ∧ c.sz ≤ 9223372036854775807) ∧ (c.op = 0 ∨ c.op = 2 ∨ (c.op = 1 ∧ 0 ≤ c.off ∧ c.off ≤ s.size) ∨ (c.op = 6 ∧ c.wh = 0 ∧ 0 ≤ c.off ∧ c.off ≤ s.size))

/-- Where the reader reads next behind a call, and the call's answer. -/
def stepI (s : ByteArray) (i : Nat) (c : Cl) : Nat :=
  if c.op = 0 then i + got s i (clamp c.sz) else if c.op = 2 then i + (if i < s.size then 1 else 0) else if c.op = 6 then c.off.toNat else i
def stepA (s : ByteArray) (i : Nat) (c : Cl) : An :=
  if c.op = 0 then ⟨cut s i (got s i (clamp c.sz)), (got s i (clamp c.sz) : Nat), 0, if i < s.size then 0 else 1⟩
  else if c.op = 2 then ⟨cut s i (if i < s.size then 1 else 0), 0, 0, if i < s.size then 0 else 1⟩
  else if c.op = 1 then ⟨cut s c.off.toNat (got s c.off.toNat (clamp c.sz)), (got s c.off.toNat (clamp c.sz) : Nat), 0, if c.off.toNat < s.size ∧ clamp c.sz ≤ s.size - c.off.toNat then 0 else 1⟩
  else ⟨[], c.off, 0, 0⟩

theorem stepI_le (s : ByteArray) (i : Nat) (c : Cl) (h : okCl s c) (hi : i ≤ s.size) : stepI s i c ≤ s.size := by
  have g := got_le s i (clamp c.sz) hi
  obtain ⟨_, h⟩ := h
  unfold stepI
  rcases h with h | h | ⟨h, h1, h2⟩ | ⟨h, _, h1, h2⟩
  · rw [if_pos h]; exact g.1
  · rw [if_neg (by omega), if_pos h]; split <;> omega
  · rw [if_neg (by omega), if_neg (by omega), if_neg (by omega)]; exact hi
  · rw [if_neg (by omega), if_neg (by omega), if_pos h]; omega

theorem cut_one (s : ByteArray) (i : Nat) (h : i < s.size) : cut s i 1 = [s.data.toList.getD i 0] := by
  have e := len_eq s
  unfold cut
  rw [List.getD_eq_getElem?_getD, List.getElem?_eq_getElem (by omega), List.drop_eq_getElem_cons (by omega)]; rfl
theorem cut_zero (s : ByteArray) (i : Nat) : cut s i 0 = [] := by unfold cut; rw [List.take_zero]

theorem s_call (rb : Nat) (s : ByteArray) (i : Nat) (c : Cl) (ea : Addr) (W : World) (hR : Rd 46 rb (.string s) i W) (hE : Eof ea W) (h0 : 0 < rb) (hl : s.size ≤ 140737488351232) (hi : i ≤ s.size) (hc : okCl s c) :
    Calls Tryd.prog 12 #[.iface 43 (.pointer (some ⟨rb, 0, none⟩)), .agg c.vals.toArray] W fun e w' => e = .returned (.agg (stepA s i c).vals.toArray) ∧ Rd 46 rb (.string s) (stepI s i c) w' ∧ Keep rb W.heap.size W w' := by
  have hl : s.size ≤ 9223372036854775807 := by omega
  have e := len_eq s
  obtain ⟨op, sz, wh, off, dt⟩ := c
  obtain ⟨⟨z1, z2⟩, hc⟩ := hc
  dsimp only at z1 z2 hc
  have lr := hR.lt
  rcases hc with rfl | rfl | ⟨rfl, o1, o2⟩ | ⟨rfl, rfl, o1, o2⟩
  · refine s_call0 rb _ _ ⟨(cut s i (got s i (clamp sz))).toArray⟩ _ 0 ((if i < s.size then 0 else 1 : Nat) : Int) sz wh off dt W lr (fun w1 hb1 => ?_)
    have hR1 := hR.of_heap (hb1.block rb lr)
    have hE1 : Eof ea w1 := hE.kept (k := rb) (Keep.of_below hb1) (by omega) (by omega)
    refine s_read_core rb _ _ _ _ _ sz wh off dt ea w1 hE1 h0 hR1.lt (by split <;> omega) (cut_length _ _ _ (got_le s i _ hi).1) (got_le s i _ hi).2 z1 z2 (fun w2 bb hb2 hB hbb => ?_)
    have hb := hb1.trans (hb2.mono hb1.size)
    exact s_read rb bb s i (clamp sz) ea w2 (hR.of_heap (hb.block rb lr)) (hE.kept (k := rb) (Keep.of_below hb) (by omega) (by omega)) hB (by have := hR1.lt; omega) hl hi
  · refine s_call2 rb _ _ ⟨(cut s i (if i < s.size then 1 else 0)).toArray⟩ 0 0 ((if i < s.size then 0 else 1 : Nat) : Int) sz wh off dt W lr (fun w1 hb1 => ?_)
    have hR1 := hR.of_heap (hb1.block rb lr)
    have hE1 : Eof ea w1 := hE.kept (k := rb) (Keep.of_below hb1) (by omega) (by omega)
    have hm := fun (w2 : World) (hb2 : Below w1.heap.size w1 w2) => have hb := hb1.trans (hb2.mono hb1.size); s_readByte rb s i ea w2 (hR.of_heap (hb.block rb lr)) (hE.kept (k := rb) (Keep.of_below hb) (by omega) (by omega)) h0 hl hi
    by_cases hlt : i < s.size
    · simp only [if_pos hlt] at hm ⊢
      have e2 : stepI s i ⟨2, sz, wh, off, dt⟩ = i + 1 := by unfold stepI; simp [hlt]
      rw [cut_one s i hlt, e2]
      exact s_one_in rb _ _ _ sz wh off dt ea w1 hE1 h0 hR1.lt hm
    · simp only [if_neg hlt] at hm ⊢
      have e2 : stepI s i ⟨2, sz, wh, off, dt⟩ = i + 0 := by unfold stepI; simp [hlt]
      rw [cut_zero, e2]
      exact s_one_end rb _ _ _ sz wh off dt ea w1 hE1 h0 hR1.lt hm
  · obtain ⟨o, rfl⟩ := Int.eq_ofNat_of_zero_le o1
    refine s_call1 rb _ _ ⟨(cut s o (got s o (clamp sz))).toArray⟩ _ 0 ((if o < s.size ∧ clamp sz ≤ s.size - o then 0 else 1 : Nat) : Int) sz wh o dt W lr (fun w1 hb1 => ?_)
    have hR1 := hR.of_heap (hb1.block rb lr)
    have hE1 : Eof ea w1 := hE.kept (k := rb) (Keep.of_below hb1) (by omega) (by omega)
    have ho : o ≤ s.size := by omega
    have hcl := clamp_le sz
    refine s_readAt_core rb _ _ _ _ _ sz wh o dt ea w1 hE1 h0 hR1.lt (by split <;> omega) (cut_length _ _ _ (got_le s o _ ho).1) (got_le s o _ ho).2 z1 z2 (fun w2 bb hb2 hB hbb => ?_)
    have hb := hb1.trans (hb2.mono hb1.size)
    exact s_readAt rb bb s i o (clamp sz) ea w2 (hR.of_heap (hb.block rb lr)) (hE.kept (k := rb) (Keep.of_below hb) (by omega) (by omega)) (by have := hR1.lt; omega) hB (by have := hR1.lt; omega) hl (by omega) ho
  · obtain ⟨o, rfl⟩ := Int.eq_ofNat_of_zero_le o1
    refine s_call6 rb _ _ ⟨#[]⟩ _ 0 0 sz 0 o dt W lr (fun w1 hb1 => ?_)
    have hR1 := hR.of_heap (hb1.block rb lr)
    exact s_other_seek rb _ o sz dt w1 hR1.lt (fun w2 hb2 => (s_seek rb s i o w2 (hR1.of_heap (hb2.block rb hR1.lt)) hl (by omega)))

theorem b_call (rb db cap : Nat) (s : ByteArray) (i : Nat) (c : Cl) (ea : Addr) (W : World) (hR : Rd 40 rb (.slice (some ⟨db, 0, none⟩) s.size cap) i W) (hD : Bytes db cap s W) (hdb : db < W.heap.size) (hdr : db ≠ rb) (hE : Eof ea W) (h0 : 0 < rb) (hl : s.size ≤ 140737488351232) (hi : i ≤ s.size) (hc : okCl s c) :
    Calls Tryd.prog 12 #[.iface 37 (.pointer (some ⟨rb, 0, none⟩)), .agg c.vals.toArray] W fun e w' => e = .returned (.agg (stepA s i c).vals.toArray) ∧ Rd 40 rb (.slice (some ⟨db, 0, none⟩) s.size cap) (stepI s i c) w' ∧ Keep rb W.heap.size W w' := by
  have hl : s.size ≤ 9223372036854775807 := by omega
  have e := len_eq s
  obtain ⟨op, sz, wh, off, dt⟩ := c
  obtain ⟨⟨z1, z2⟩, hc⟩ := hc
  dsimp only at z1 z2 hc
  have lr := hR.lt
  rcases hc with rfl | rfl | ⟨rfl, o1, o2⟩ | ⟨rfl, rfl, o1, o2⟩
  · refine b_call0 rb _ _ ⟨(cut s i (got s i (clamp sz))).toArray⟩ _ 0 ((if i < s.size then 0 else 1 : Nat) : Int) sz wh off dt W lr (fun w1 hb1 => ?_)
    have hR1 := hR.of_heap (hb1.block rb lr)
    have hE1 : Eof ea w1 := hE.kept (k := rb) (Keep.of_below hb1) (by omega) (by omega)
    refine b_read_core rb _ _ _ _ _ sz wh off dt ea w1 hE1 h0 hR1.lt (by split <;> omega) (cut_length _ _ _ (got_le s i _ hi).1) (got_le s i _ hi).2 z1 z2 (fun w2 bb hb2 hB hbb => ?_)
    have hb := hb1.trans (hb2.mono hb1.size)
    exact b_read rb db cap bb s i (clamp sz) ea w2 (hR.of_heap (hb.block rb lr)) (hD.kept (k := rb) (Keep.of_below hb) hdb hdr) hdr (hE.kept (k := rb) (Keep.of_below hb) (by omega) (by omega)) hB (by have := hR1.lt; omega) hl hi
  · refine b_call2 rb _ _ ⟨(cut s i (if i < s.size then 1 else 0)).toArray⟩ 0 0 ((if i < s.size then 0 else 1 : Nat) : Int) sz wh off dt W lr (fun w1 hb1 => ?_)
    have hR1 := hR.of_heap (hb1.block rb lr)
    have hE1 : Eof ea w1 := hE.kept (k := rb) (Keep.of_below hb1) (by omega) (by omega)
    have hm := fun (w2 : World) (hb2 : Below w1.heap.size w1 w2) => have hb := hb1.trans (hb2.mono hb1.size); b_readByte rb db cap s i ea w2 (hR.of_heap (hb.block rb lr)) (hD.kept (k := rb) (Keep.of_below hb) hdb hdr) hdr (hE.kept (k := rb) (Keep.of_below hb) (by omega) (by omega)) h0 hl hi
    by_cases hlt : i < s.size
    · simp only [if_pos hlt] at hm ⊢
      have e2 : stepI s i ⟨2, sz, wh, off, dt⟩ = i + 1 := by unfold stepI; simp [hlt]
      rw [cut_one s i hlt, e2]
      exact b_one_in rb _ _ _ sz wh off dt ea w1 hE1 h0 hR1.lt hm
    · simp only [if_neg hlt] at hm ⊢
      have e2 : stepI s i ⟨2, sz, wh, off, dt⟩ = i + 0 := by unfold stepI; simp [hlt]
      rw [cut_zero, e2]
      exact b_one_end rb _ _ _ sz wh off dt ea w1 hE1 h0 hR1.lt hm
  · obtain ⟨o, rfl⟩ := Int.eq_ofNat_of_zero_le o1
    refine b_call1 rb _ _ ⟨(cut s o (got s o (clamp sz))).toArray⟩ _ 0 ((if o < s.size ∧ clamp sz ≤ s.size - o then 0 else 1 : Nat) : Int) sz wh o dt W lr (fun w1 hb1 => ?_)
    have hR1 := hR.of_heap (hb1.block rb lr)
    have hE1 : Eof ea w1 := hE.kept (k := rb) (Keep.of_below hb1) (by omega) (by omega)
    have ho : o ≤ s.size := by omega
    have hcl := clamp_le sz
    refine b_readAt_core rb _ _ _ _ _ sz wh o dt ea w1 hE1 h0 hR1.lt (by split <;> omega) (cut_length _ _ _ (got_le s o _ ho).1) (got_le s o _ ho).2 z1 z2 (fun w2 bb hb2 hB hbb => ?_)
    have hb := hb1.trans (hb2.mono hb1.size)
    exact b_readAt rb db cap bb s i o (clamp sz) ea w2 (hR.of_heap (hb.block rb lr)) (hD.kept (k := rb) (Keep.of_below hb) hdb hdr) (hE.kept (k := rb) (Keep.of_below hb) (by omega) (by omega)) (by have := hR1.lt; omega) hB (by have := hR1.lt; omega) hl (by omega) ho
  · obtain ⟨o, rfl⟩ := Int.eq_ofNat_of_zero_le o1
    refine b_call6 rb _ _ ⟨#[]⟩ _ 0 0 sz 0 o dt W lr (fun w1 hb1 => ?_)
    have hR1 := hR.of_heap (hb1.block rb lr)
    exact b_other_seek rb _ o sz dt w1 hR1.lt (fun w2 hb2 => (b_seek rb _ i o w2 (hR1.of_heap (hb2.block rb hR1.lt)) (by omega)))
end Go.Proofs.YthjecnbaconfjaaDoor
