/- Lemmas on worlds that the walks share: two worlds alike but for one block and from a block number on; a reader's block; the built-in copy into a row of its own. No conditions beyond those each lemma names. -/
import Derived.WalkKit
import Derived.Handy
import Derived.Laws.CopyOwn
import Derived.Lib.BufferWrite
import Derived.Lib.ConvBytes
import Derived.Laws.BytesArg
import Derived.Deep.QuietTactic
namespace Go.Proofs.YthjecnbaconfjaaDoor
open Go.RowKit

/-- Below block number B, and but for block rb, the world w' is as w was. -/
structure Keep (rb B : Nat) (w w' : World) : Prop where
  os : w'.os = w.os
  tape : w'.tape = w.tape
  output : w'.output = w.output
  size : w.heap.size ≤ w'.heap.size
  block : ∀ k, k < B → k ≠ rb → w'.heap[k]? = w.heap[k]?
theorem Keep.refl (rb B : Nat) (w : World) : Keep rb B w w := ⟨rfl, rfl, rfl, Nat.le_refl _, fun _ _ _ => rfl⟩
theorem Keep.trans {rb B : Nat} {a b c : World} (h : Keep rb B a b) (k : Keep rb B b c) : Keep rb B a c :=
  ⟨k.os.trans h.os, k.tape.trans h.tape, k.output.trans h.output, Nat.le_trans h.size k.size, fun i hi hn => (k.block i hi hn).trans (h.block i hi hn)⟩
theorem Keep.mono {rb B B' : Nat} {w w' : World} (h : Keep rb B w w') (hB : B' ≤ B) : Keep rb B' w w' := ⟨h.os, h.tape, h.output, h.size, fun k hk hn => h.block k (Nat.lt_of_lt_of_le hk hB) hn⟩
/-- The block that may turn lies from B on: which one does not matter. -/
theorem Keep.other {rb rb' B : Nat} {w w' : World} (h : Keep rb B w w') (hr : B ≤ rb) : Keep rb' B w w' := ⟨h.os, h.tape, h.output, h.size, fun k hk _ => h.block k hk (by omega)⟩
theorem Keep.of_heap {rb B : Nat} {a w w' : World} (h : Keep rb B a w) (h1 : w'.heap = w.heap) (h2 : w'.os = w.os) (h3 : w'.tape = w.tape) (h4 : w'.output = w.output) : Keep rb B a w' :=
  ⟨h2.trans h.os, h3.trans h.tape, h4.trans h.output, by rw [h1]; exact h.size, fun k hk hn => by rw [h1]; exact h.block k hk hn⟩
theorem Keep.drewN {rb B : Nat} {a w : World} (h : Keep rb B a w) (n : Nat) : Keep rb B a (w.drewN n) := h.of_heap rfl rfl rfl rfl
theorem Keep.drew {rb B : Nat} {a w : World} (h : Keep rb B a w) : Keep rb B a w.drew := h.of_heap rfl rfl rfl rfl
theorem Keep.setCell {rb B : Nat} {a w : World} (h : Keep rb B a w) {p : Addr} (hp : p.block = rb ∨ B ≤ p.block) (u : Value) : Keep rb B a (w.setCell p u) :=
  h.trans ⟨rfl, rfl, rfl, by simp [World.setCell], fun k hk hn => Below.heap_setCell _ _ _ _ (by rcases hp with hp | hp <;> omega)⟩
theorem Keep.own {rb B : Nat} {a w : World} (h : Keep rb B a w) (o : Nat) (u : Value) : Keep rb B a (w.setCell ⟨rb, o, none⟩ u) := h.setCell (Or.inl rfl) u
theorem Keep.alloc {rb B : Nat} {a w : World} (h : Keep rb B a w) (hB : B ≤ w.heap.size) (o : Obj) : Keep rb B a (w.alloc o) :=
  h.trans ⟨rfl, rfl, rfl, by simp, fun k hk _ => Below.heap_alloc _ _ _ (by omega)⟩
theorem Keep.grown {rb B : Nat} {a w w' : World} {row : Option Nat} (h : Keep rb B a w) (hg : w.grownBy w' row) (hB : B ≤ w.heap.size) (hr : ∀ k, row = some k → B ≤ k) : Keep rb B a w' :=
  h.trans ⟨hg.os, hg.tape, hg.output, hg.size, fun k hk _ => hg.block k (by omega) (fun e => by have := hr k e.symm; omega)⟩
theorem Keep.below {rb B : Nat} {w w' : World} (h : Keep rb B w w') (hr : B ≤ rb) : Below B w w' := ⟨h.os, h.tape, h.output, h.size, fun k hk => h.block k hk (by omega)⟩
theorem Keep.of_below {rb B : Nat} {w w' : World} (h : Below B w w') : Keep rb B w w' := ⟨h.os, h.tape, h.output, h.size, fun k hk _ => h.block k hk⟩
theorem Keep.cell {rb B : Nat} {w w' : World} (h : Keep rb B w w') {p : Addr} (hp : p.block < B) (hn : p.block ≠ rb) : w'.cell? p = w.cell? p := World.cell?_of_block (w := w) (h.block p.block hp hn)
theorem Keep.frozen {rb B : Nat} {w w' : World} (h : Keep rb B w w') {p : Addr} (hp : p.block < B) (hn : p.block ≠ rb) : w'.frozen? p = w.frozen? p := World.frozen?_of_block (w := w) (h.block p.block hp hn)

theorem cell_at {w : World} {b : Nat} {cs : Array Value} {t : TypeId} {fr : Nat × Nat} (h : w.heap[b]? = some (.cells cs t fr)) (o : Nat) : w.cell? ⟨b, o, none⟩ = cs[o]? := by simp [World.cell?, h]
theorem frozen_at {w : World} {b : Nat} {cs : Array Value} {t : TypeId} (h : w.heap[b]? = some (.cells cs t (0, 0))) (o : Nat) : w.frozen? ⟨b, o, none⟩ = false := by simp [World.frozen?, h]
theorem lt_of_heap {w : World} {b : Nat} {o : Obj} (h : w.heap[b]? = some o) : b < w.heap.size := (Array.getElem?_eq_some_iff.1 h).1

/-- A block of three cells, cell by cell. -/
theorem rd3 {w : World} {rb : Nat} {t : TypeId} {x y z : Value} (h : w.heap[rb]? = some (.cells #[x, y, z] t (0, 0))) :
    w.cell? ⟨rb, 0, none⟩ = some x ∧ w.cell? ⟨rb, 1, none⟩ = some y ∧ w.cell? ⟨rb, 2, none⟩ = some z ∧ w.frozen? ⟨rb, 0, none⟩ = false ∧ w.frozen? ⟨rb, 1, none⟩ = false ∧ w.frozen? ⟨rb, 2, none⟩ = false :=
  ⟨cell_at h 0, cell_at h 1, cell_at h 2, frozen_at h 0, frozen_at h 1, frozen_at h 2⟩
/-- A reader's block: what it reads from, the offset, and a place of an earlier code point, of which nothing is said. -/
def Rd (t : TypeId) (rb : Nat) (S : Value) (i : Nat) (w : World) : Prop := ∃ pr : Int, w.heap[rb]? = some (.cells #[S, .int .i64 i, .int .i64 pr] t (0, 0))
theorem Rd.kept {t : TypeId} {rb : Nat} {S : Value} {i : Nat} {w w' : World} (h : Rd t rb S i w) {k B : Nat} (hk : Keep k B w w') (hB : rb < B) (hn : rb ≠ k) : Rd t rb S i w' := by
  obtain ⟨pr, h⟩ := h
  exact ⟨pr, by rw [hk.block rb hB hn]; exact h⟩
theorem Rd.of_heap {t : TypeId} {rb : Nat} {S : Value} {i : Nat} {w w' : World} (h : Rd t rb S i w) (hh : w'.heap[rb]? = w.heap[rb]?) : Rd t rb S i w' := by
  obtain ⟨pr, h⟩ := h
  exact ⟨pr, by rw [hh]; exact h⟩
theorem Rd.lt {t : TypeId} {rb : Nat} {S : Value} {i : Nat} {w : World} (h : Rd t rb S i w) : rb < w.heap.size := by
  obtain ⟨pr, h⟩ := h
  exact lt_of_heap h

/-- What a reader of bytes reads from: a slice whose cells are the bytes of s. -/
def Bytes (db cap : Nat) (s : ByteArray) (w : World) : Prop := s.size ≤ cap ∧ cap ≤ maxLen ∧ ∀ j (h : j < s.size), w.cell? ⟨db, j, none⟩ = some (.int .u8 (s[j].toNat : Int))
theorem Bytes.kept {db cap : Nat} {s : ByteArray} {w w' : World} (h : Bytes db cap s w) {k B : Nat} (hk : Keep k B w w') (hB : db < B) (hn : db ≠ k) : Bytes db cap s w' :=
  ⟨h.1, h.2.1, fun j hj => (hk.cell (p := ⟨db, j, none⟩) hB hn).trans (h.2.2 j hj)⟩

/-- The cells of the bytes of s from i on, k of them. -/
def cut (s : ByteArray) (i k : Nat) : List UInt8 := (s.data.toList.drop i).take k

section
variable {P : Program}

theorem len_eq (s : ByteArray) : s.data.toList.length = s.size := by rw [Lib.size_eq]
theorem cut_length (s : ByteArray) (i k : Nat) (h : i + k ≤ s.size) : (cut s i k).length = k := by
  have e := len_eq s
  unfold cut; rw [List.length_take, List.length_drop]; omega
theorem cut_get (s : ByteArray) (i k j : Nat) (h : i + k ≤ s.size) (hj : j < k) : (cut s i k)[j]? = some s[i + j] := by
  have e := len_eq s
  unfold cut
  rw [List.getElem?_take_of_lt hj, List.getElem?_drop, List.getElem?_eq_getElem (by omega)]
  rfl
theorem extract_take (s : ByteArray) (i k : Nat) (h : i + k ≤ s.size) : (s.extract i s.size).data.toList.take k = cut s i k := by
  have e : (s.extract i s.size).data.toList = (s.data.toList.drop i).take (s.size - i) := by
    rw [ByteArray.data_extract, Array.toList_extract, List.extract_eq_take_drop]
  rw [e, List.take_take, Nat.min_eq_left (by omega)]; rfl

theorem extract_size (s : ByteArray) (i : Nat) : (s.extract i s.size).size = s.size - i := by
  rw [ByteArray.size_extract, Nat.min_self]

/-- 'copy(dst, u)' from a string of whatever length into a row of its own. -/
theorem run_copy_str (w : World) (dT sT ty elem : TypeId) (g dLen dCap : Nat) (u : ByteArray) (k : Nat) (cur : Array Value) (t : TypeId)
    (hu : P.underlying dT = some (.slice elem)) (hs : (P.info? elem).map (·.size) = some 1) (hg : w.heap[g]? = some (.cells cur t (0, 0))) (hc : cur.size = dLen) (hk : k = min u.size dLen) :
    (Builtin.copy_ #[dT, sT] ty #[.slice (some ⟨g, 0, none⟩) dLen dCap, .string u]).run P w =
      .ok (goInt k) (w.setRow g (Lib.byteCells (u.data.toList.take k) ++ cur.toList.drop k).toArray) := by
  have e := len_eq u
  have hl : (Lib.byteCells (u.data.toList.take k)).length = k := by rw [Lib.byteCells_length, List.length_take]; omega
  have hst := run_storeCells_at P g 0 t (Lib.byteCells (u.data.toList.take k)) 0 cur w hg (by rw [hl]; omega) (Lib.byteCells_one _)
  have htk : List.take k (List.map (fun b : UInt8 => Value.int IntKind.u8 (b.toNat : Int)) u.data.toList) = Lib.byteCells (u.data.toList.take k) := by
    unfold Lib.byteCells; rw [List.map_take]
  rw [hl] at hst
  simp only [Nat.zero_add, List.take_zero, List.nil_append] at hst
  have hmin : Nat.min u.size dLen = k := hk.symm
  clear hk
  cases hq : P.info? elem with
  | none => simp [hq] at hs
  | some i0 =>
    simp [Builtin.copy_, run_underlying hu, Builtin.lenOf, Builtin.firstCells, sizeOf, typeInfo, hq, hmin]
    rw [htk, hst]
    simp [Result.andThen]

/-- .. from a slice of bytes that are those of s from i on. -/
theorem run_copy_byt (w : World) (dT sT ty elem : TypeId) (g dLen dCap db : Nat) (sCap : Nat) (s : ByteArray) (i k : Nat) (cur : Array Value) (t : TypeId)
    (hu : P.underlying dT = some (.slice elem)) (hs : (P.info? elem).map (·.size) = some 1) (hg : w.heap[g]? = some (.cells cur t (0, 0))) (hc : cur.size = dLen) (hi : i ≤ s.size) (hk : k = min (s.size - i) dLen)
    (hb : ∀ j (h : j < s.size), w.cell? ⟨db, j, none⟩ = some (.int .u8 (s[j].toNat : Int))) :
    (Builtin.copy_ #[dT, sT] ty #[.slice (some ⟨g, 0, none⟩) dLen dCap, .slice (some ⟨db, i, none⟩) (s.size - i) sCap]).run P w =
      .ok (goInt k) (w.setRow g (Lib.byteCells (cut s i k) ++ cur.toList.drop k).toArray) := by
  have hl : (Lib.byteCells (cut s i k)).length = k := by rw [Lib.byteCells_length, cut_length _ _ _ (by omega)]
  have h := run_copy_row (P := P) w dT sT ty elem g 0 dLen dCap ⟨db, i, none⟩ (s.size - i) sCap cur t (Lib.byteCells (cut s i k)) hu hs hg (hl.trans hk)
    (fun j v hj => by
      have hlt : j < k := by rw [← hl]; exact (List.getElem?_eq_some_iff.1 hj).1
      unfold Lib.byteCells at hj
      rw [List.getElem?_map, cut_get s i _ j (by omega) hlt] at hj
      rw [← Option.some.inj hj]
      exact (congrArg w.cell? (by simp [Addr.add])).trans (hb (i + j) (by omega))) (by rw [hl]; omega) (Lib.byteCells_one _)
  rw [h, hl]; simp

/-- A row of another's: what was written is there; all else is as it was. -/
theorem keep_setRow (w : World) (g B : Nat) (cs : Array Value) : Keep g B w (w.setRow g cs) :=
  ⟨rfl, rfl, rfl, by simp [World.setRow], fun k _ hn => setRow_other w g k cs hn⟩

/-- A copy, in a list of operations. -/
theorem wpList_copy_run {w : World} {ops : Array Oper} {rest : List Oper} {o : Oper} {a : Act} {Q : Exit → Act → World → Prop} (hgd : o.guard = none) (d s : Operand) (dT sT : TypeId)
    (ho : o.op = .call { callee := .builtin .copy, args := #[d, s], argTypes := #[dT, sT] }) (vd vs : Value) (hd : a.eval d = vd) (hs : a.eval s = vs) (g k : Nat) (old new : Array Value) (t : TypeId)
    (hg : w.heap[g]? = some (.cells old t (0, 0))) (hrun : ∀ ty, (Builtin.copy_ #[dT, sT] ty #[vd, vs]).run P w = .ok (goInt k) (w.setRow g new))
    (h : ∀ w', Hid (w'.heap[g]? = some (.cells new t (0, 0))) → Keep g w.heap.size w w' → wpList P ops Q rest (a.put o.dst (goInt k)) w') :
    wpList P ops Q (o :: rest) a w := by
  refine wpList_plain hgd fun K hK' => ?_
  have hr := hrun o.type
  unfold Oper.wp
  simp [execOp, ho, resolve, invoke, builtin, hd, hs, hr, Result.andThen]
  exact hK' _ _ (h _ (setRow_heap w g old new t _ hg) (keep_setRow w g _ new))

/-- A copy, in a region that draws its order. -/
theorem step_copy_run {ops : Array Oper} {o : Oper} {a : Act} {w : World} {K : Act → World → Prop} {Q : Exit → Act → World → Prop} {E : Prop} (hgd : o.guard = none) (d s : Operand) (dT sT : TypeId)
    (ho : o.op = .call { callee := .builtin .copy, args := #[d, s], argTypes := #[dT, sT] }) (vd vs : Value) (hd : a.eval d = vd) (hs : a.eval s = vs) (g k : Nat) (old new : Array Value) (t : TypeId)
    (hg : w.heap[g]? = some (.cells old t (0, 0))) (hrun : ∀ ty, (Builtin.copy_ #[dT, sT] ty #[vd, vs]).run P w = .ok (goInt k) (w.setRow g new))
    (h : ∀ w', Hid (w'.heap[g]? = some (.cells new t (0, 0))) → Keep g w.heap.size w w' → K (a.put o.dst (goInt k)) w') :
    if Region.wanted o (yielded ops a.tmps) = true then Oper.wp P o a w K Q else E := by
  have hw : Region.wanted o (yielded ops a.tmps) = true := by simp [Region.wanted, hgd]
  rw [if_pos hw]
  have hr := hrun o.type
  unfold Oper.wp
  simp [execOp, ho, resolve, invoke, builtin, hd, hs, hr, Result.andThen]
  exact h _ (setRow_heap w g old new t _ hg) (keep_setRow w g _ new)
end

/-- The end of a Read: the row is written, the offset set. -/
theorem read_close {t : TypeId} {rb bb : Nat} {S : Value} {i k : Nat} {W W1 w4 : World} {row : Array Value} (HR4 : Hid (w4.heap[rb]? = some (.cells #[S, .int .i64 i, .int .i64 (-1)] t (0, 0))))
    (h4 : Hid (w4.heap[bb]? = some (.cells row 5 (0, 0)))) (k4 : Keep bb W1.heap.size W1 w4) (h1 : Keep rb bb W W1) (hlt : bb < W1.heap.size) (HN : Hid (rb ≠ bb)) {x : Int} (hx : x = ((i + k : Nat) : Int)) :
    Rd t rb S (i + k) (w4.setCell ⟨rb, 1, none⟩ (.int .i64 x)) ∧ Hid ((w4.setCell ⟨rb, 1, none⟩ (.int .i64 x)).heap[bb]? = some (.cells row 5 (0, 0))) ∧ Keep rb bb W (w4.setCell ⟨rb, 1, none⟩ (.int .i64 x)) := by
  subst hx
  refine ⟨⟨-1, by rw [heap_setCell_same _ _ _ _ _ _ HR4.out]; rfl⟩, (Below.heap_setCell _ _ _ _ (by simpa using HN.out.symm)).trans h4.out, ?_⟩
  exact (h1.trans ((k4.mono (Nat.le_of_lt hlt)).other (Nat.le_refl _))).own _ _
end Go.Proofs.YthjecnbaconfjaaDoor
