/- The methods of both readers in one form each: what Read, ReadAt, ReadByte and Seek return at every offset within the data. Conditions: the reader's block, its data and io.EOF lie as stated. Printed by gen_wu.py. -/
import Derived.Test.YthjecnbaconfjaaDoorWi
namespace Go.Proofs.YthjecnbaconfjaaDoor
open Go.RowKit

/-- An error's value: none, or io.EOF. -/
def errV (ea : Addr) (c : Nat) : Value := if c = 0 then .nilIface else .iface 70 (.pointer (some ea))
/-- A row that begins with these bytes. -/
def Filled (bb : Nat) (d : List UInt8) (w : World) : Prop := ∃ row : Array Value, w.heap[bb]? = some (.cells row 5 (0, 0)) ∧ ∀ (j : Nat) (x : UInt8), d[j]? = some x → row[j]? = some (Value.int .u8 (x.toNat : Int))
theorem filled_of {bb : Nat} {d : List UInt8} {w : World} {l : List Value} (h : w.heap[bb]? = some (.cells (Lib.byteCells d ++ l).toArray 5 (0, 0))) : Filled bb d w := by
  refine ⟨_, h, fun j x hj => ?_⟩
  have hl : j < d.length := (List.getElem?_eq_some_iff.1 hj).1
  unfold Lib.byteCells
  rw [List.getElem?_toArray, List.getElem?_append_left (by simpa using hl), List.getElem?_map, hj]; rfl
theorem filled_nil {bb n : Nat} {w : World} (h : Buf bb n w) : Filled bb [] w := by
  obtain ⟨cur, h, _⟩ := h
  exact ⟨cur, h, fun j x hj => by simp at hj⟩
theorem Buf.kept {bb n k B : Nat} {w w' : World} (h : Buf bb n w) (hk : Keep k B w w') (hB : bb < B) (hn : bb ≠ k) : Buf bb n w' := by
  obtain ⟨cur, h, hc⟩ := h
  exact ⟨cur, (hk.block bb hB hn).trans h, hc⟩
theorem Buf.lt {bb n : Nat} {w : World} (h : Buf bb n w) : bb < w.heap.size := by
  obtain ⟨cur, h, _⟩ := h
  exact lt_of_heap h

/-- How many bytes a buffer of n gets from offset i on. -/
def got (s : ByteArray) (i n : Nat) : Nat := if i < s.size then min (s.size - i) n else 0
theorem got_le (s : ByteArray) (i n : Nat) (h : i ≤ s.size) : i + got s i n ≤ s.size ∧ got s i n ≤ n := by unfold got; split <;> omega

theorem s_read (rb bb : Nat) (s : ByteArray) (i n : Nat) (ea : Addr) (W : World) (hR : Rd 46 rb (.string s) i W) (hE : Eof ea W) (hB : Buf bb n W) (hne : rb ≠ bb) (hl : s.size ≤ 9223372036854775807) (h : i ≤ s.size) :
    Calls Tryd.prog 51 #[.pointer (some ⟨rb, 0, none⟩), .slice (some ⟨bb, 0, none⟩) n n] W fun e w' => e = .returned (.tuple #[.int .i64 ((got s i n : Nat) : Int), errV ea (if i < s.size then 0 else 1)]) ∧ Rd 46 rb (.string s) (i + got s i n) w' ∧ Filled bb (cut s i (got s i n)) w' ∧ Keep rb bb W w' := by
  by_cases hi : i < s.size
  · obtain ⟨cur, hb, hc⟩ := hB
    refine (s_read_in rb bb s i n (got s i n) cur W hR hb hc hne hl hi (by unfold got; rw [if_pos hi])).mono fun e w' ⟨he, h1, h2, h3⟩ => ⟨?_, h1, filled_of h2.out, h3⟩
    rw [he, if_pos hi]; rfl
  · obtain rfl : i = s.size := by omega
    have e0 : got s s.size n = 0 := by unfold got; rw [if_neg hi]
    refine (s_read_end rb s ea (.slice (some ⟨bb, 0, none⟩) n n) W hR hE hl).mono fun e w' ⟨he, h1, h3⟩ => ?_
    rw [e0, if_neg hi]
    exact ⟨he, h1, filled_nil (hB.kept h3 hB.lt (fun e => hne e.symm)), h3.mono (Nat.le_of_lt hB.lt)⟩

theorem s_readAt (rb bb : Nat) (s : ByteArray) (i off n : Nat) (ea : Addr) (W : World) (hR : Rd 46 rb (.string s) i W) (hE : Eof ea W) (h0 : 0 ≠ bb) (hB : Buf bb n W) (hne : rb ≠ bb) (hl : s.size ≤ 9223372036854775807) (hn : n ≤ 9223372036854775807) (h : off ≤ s.size) :
    Calls Tryd.prog 52 #[.pointer (some ⟨rb, 0, none⟩), .slice (some ⟨bb, 0, none⟩) n n, .int .i64 off] W fun e w' => e = .returned (.tuple #[.int .i64 ((got s off n : Nat) : Int), errV ea (if off < s.size ∧ n ≤ s.size - off then 0 else 1)]) ∧ Rd 46 rb (.string s) i w' ∧ Filled bb (cut s off (got s off n)) w' ∧ Keep rb bb W w' := by
  by_cases hi : off < s.size
  · obtain ⟨cur, hb, hc⟩ := hB
    have eg : got s off n = min (s.size - off) n := by unfold got; rw [if_pos hi]
    refine (s_readAt_in rb bb s i off n (got s off n) ea cur W hR hE h0 hb hc hne hl hn hi eg).mono fun e w' ⟨he, h1, h2, h3⟩ => ⟨?_, h1, filled_of h2.out, h3⟩
    rw [he]
    by_cases hk : got s off n < n
    · rw [if_pos hk, if_neg (by omega)]; rfl
    · rw [if_neg hk, if_pos (by omega)]; rfl
  · obtain rfl : off = s.size := by omega
    have e0 : got s s.size n = 0 := by unfold got; rw [if_neg hi]
    refine (s_readAt_end rb s i ea (.slice (some ⟨bb, 0, none⟩) n n) W hR hE hl).mono fun e w' ⟨he, h1, h3⟩ => ?_
    rw [e0, if_neg (by omega)]
    exact ⟨he, h1, filled_nil (hB.kept h3 hB.lt (fun e => hne e.symm)), h3.mono (Nat.le_of_lt hB.lt)⟩

theorem s_readByte (rb : Nat) (s : ByteArray) (i : Nat) (ea : Addr) (W : World) (hR : Rd 46 rb (.string s) i W) (hE : Eof ea W) (h0 : 0 < rb) (hl : s.size ≤ 9223372036854775807) (h : i ≤ s.size) :
    Calls Tryd.prog 53 #[.pointer (some ⟨rb, 0, none⟩)] W fun e w' => e = .returned (.tuple #[.int .u8 (((s.data.toList.getD i 0).toNat : Nat) : Int), errV ea (if i < s.size then 0 else 1)]) ∧ Rd 46 rb (.string s) (i + if i < s.size then 1 else 0) w' ∧ Keep rb W.heap.size W w' := by
  by_cases hi : i < s.size
  · refine (s_readByte_in rb s i W hR hl hi).mono fun e w' ⟨he, h1, h3⟩ => ?_
    rw [if_pos hi, if_pos hi]
    refine ⟨?_, h1, h3⟩
    have eg : s.data.toList.getD i 0 = s[i] := by
      rw [List.getD_eq_getElem?_getD, List.getElem?_eq_getElem (by rw [len_eq]; exact hi)]; rfl
    rw [he, eg]; rfl
  · obtain rfl : i = s.size := by omega
    refine (s_readByte_end rb s ea W hR hE h0 hl).mono fun e w' ⟨he, h1, h3⟩ => ?_
    rw [if_neg hi, if_neg hi]
    refine ⟨?_, h1, h3⟩
    have eg : s.data.toList.getD s.size 0 = 0 := by
      rw [List.getD_eq_getElem?_getD, List.getElem?_eq_none (by rw [len_eq]; exact Nat.le_refl _)]; rfl
    rw [he, eg]; rfl

theorem b_read (rb db cap bb : Nat) (s : ByteArray) (i n : Nat) (ea : Addr) (W : World) (hR : Rd 40 rb (.slice (some ⟨db, 0, none⟩) s.size cap) i W) (hD : Bytes db cap s W) (hdr : db ≠ rb) (hE : Eof ea W) (hB : Buf bb n W) (hne : rb ≠ bb) (hl : s.size ≤ 9223372036854775807) (h : i ≤ s.size) :
    Calls Tryd.prog 38 #[.pointer (some ⟨rb, 0, none⟩), .slice (some ⟨bb, 0, none⟩) n n] W fun e w' => e = .returned (.tuple #[.int .i64 ((got s i n : Nat) : Int), errV ea (if i < s.size then 0 else 1)]) ∧ Rd 40 rb (.slice (some ⟨db, 0, none⟩) s.size cap) (i + got s i n) w' ∧ Filled bb (cut s i (got s i n)) w' ∧ Keep rb bb W w' := by
  by_cases hi : i < s.size
  · obtain ⟨cur, hb, hc⟩ := hB
    refine (b_read_in rb db cap bb s i n (got s i n) cur W hR hD hdr hb hc hne hl hi (by unfold got; rw [if_pos hi])).mono fun e w' ⟨he, h1, h2, h3⟩ => ⟨?_, h1, filled_of h2.out, h3⟩
    rw [he, if_pos hi]; rfl
  · obtain rfl : i = s.size := by omega
    have e0 : got s s.size n = 0 := by unfold got; rw [if_neg hi]
    refine (b_read_end rb db cap s ea (.slice (some ⟨bb, 0, none⟩) n n) W hR hE hl).mono fun e w' ⟨he, h1, h3⟩ => ?_
    rw [e0, if_neg hi]
    exact ⟨he, h1, filled_nil (hB.kept h3 hB.lt (fun e => hne e.symm)), h3.mono (Nat.le_of_lt hB.lt)⟩

theorem b_readAt (rb db cap bb : Nat) (s : ByteArray) (i off n : Nat) (ea : Addr) (W : World) (hR : Rd 40 rb (.slice (some ⟨db, 0, none⟩) s.size cap) i W) (hD : Bytes db cap s W) (hE : Eof ea W) (h0 : 0 ≠ bb) (hB : Buf bb n W) (hne : rb ≠ bb) (hl : s.size ≤ 9223372036854775807) (hn : n ≤ 9223372036854775807) (h : off ≤ s.size) :
    Calls Tryd.prog 39 #[.pointer (some ⟨rb, 0, none⟩), .slice (some ⟨bb, 0, none⟩) n n, .int .i64 off] W fun e w' => e = .returned (.tuple #[.int .i64 ((got s off n : Nat) : Int), errV ea (if off < s.size ∧ n ≤ s.size - off then 0 else 1)]) ∧ Rd 40 rb (.slice (some ⟨db, 0, none⟩) s.size cap) i w' ∧ Filled bb (cut s off (got s off n)) w' ∧ Keep rb bb W w' := by
  by_cases hi : off < s.size
  · obtain ⟨cur, hb, hc⟩ := hB
    have eg : got s off n = min (s.size - off) n := by unfold got; rw [if_pos hi]
    refine (b_readAt_in rb db cap bb s i off n (got s off n) ea cur W hR hD hE h0 hb hc hne hl hn hi eg).mono fun e w' ⟨he, h1, h2, h3⟩ => ⟨?_, h1, filled_of h2.out, h3⟩
    rw [he]
    by_cases hk : got s off n < n
    · rw [if_pos hk, if_neg (by omega)]; rfl
    · rw [if_neg hk, if_pos (by omega)]; rfl
  · obtain rfl : off = s.size := by omega
    have e0 : got s s.size n = 0 := by unfold got; rw [if_neg hi]
    refine (b_readAt_end rb db cap s i ea (.slice (some ⟨bb, 0, none⟩) n n) W hR hE hl).mono fun e w' ⟨he, h1, h3⟩ => ?_
    rw [e0, if_neg (by omega)]
    exact ⟨he, h1, filled_nil (hB.kept h3 hB.lt (fun e => hne e.symm)), h3.mono (Nat.le_of_lt hB.lt)⟩

theorem b_readByte (rb db cap : Nat) (s : ByteArray) (i : Nat) (ea : Addr) (W : World) (hR : Rd 40 rb (.slice (some ⟨db, 0, none⟩) s.size cap) i W) (hD : Bytes db cap s W) (hdr : db ≠ rb) (hE : Eof ea W) (h0 : 0 < rb) (hl : s.size ≤ 9223372036854775807) (h : i ≤ s.size) :
    Calls Tryd.prog 40 #[.pointer (some ⟨rb, 0, none⟩)] W fun e w' => e = .returned (.tuple #[.int .u8 (((s.data.toList.getD i 0).toNat : Nat) : Int), errV ea (if i < s.size then 0 else 1)]) ∧ Rd 40 rb (.slice (some ⟨db, 0, none⟩) s.size cap) (i + if i < s.size then 1 else 0) w' ∧ Keep rb W.heap.size W w' := by
  by_cases hi : i < s.size
  · refine (b_readByte_in rb db cap s i W hR hD hdr hl hi).mono fun e w' ⟨he, h1, h3⟩ => ?_
    rw [if_pos hi, if_pos hi]
    refine ⟨?_, h1, h3⟩
    have eg : s.data.toList.getD i 0 = s[i] := by
      rw [List.getD_eq_getElem?_getD, List.getElem?_eq_getElem (by rw [len_eq]; exact hi)]; rfl
    rw [he, eg]; rfl
  · obtain rfl : i = s.size := by omega
    refine (b_readByte_end rb db cap s ea W hR hE h0 hl).mono fun e w' ⟨he, h1, h3⟩ => ?_
    rw [if_neg hi, if_neg hi]
    refine ⟨?_, h1, h3⟩
    have eg : s.data.toList.getD s.size 0 = 0 := by
      rw [List.getD_eq_getElem?_getD, List.getElem?_eq_none (by rw [len_eq]; exact Nat.le_refl _)]; rfl
    rw [he, eg]; rfl
end Go.Proofs.YthjecnbaconfjaaDoor
