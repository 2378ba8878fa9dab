/- Lemmas for the functions of the thin package that return an answer: its block, the strings that they make. -/
import Derived.Test.YthjecnbaconfjaaDoorWu
namespace Go.Proofs.YthjecnbaconfjaaDoor
open Go.RowKit

theorem two_blocks {W w1 : World} {o1 o2 : Obj} (h : Below ((W.alloc o1).alloc o2).heap.size ((W.alloc o1).alloc o2) w1) :
    w1.heap[W.heap.size]? = some o1 ∧ w1.heap[W.heap.size + 1]? = some o2 ∧ Below W.heap.size W w1 ∧ W.heap.size + 2 ≤ w1.heap.size := by
  have hs : ((W.alloc o1).alloc o2).heap.size = W.heap.size + 2 := by simp
  have e1 : W.heap.size + 1 = (W.alloc o1).heap.size := by simp
  refine ⟨?_, ?_, ?_, ?_⟩
  · rw [h.block _ (by omega), heap_alloc_old _ _ (by simp), heap_alloc_new]
  · rw [h.block _ (by omega), e1, heap_alloc_new]
  · exact ((((Below.refl _ _).alloc (Nat.le_refl _) _).alloc (by simp) _)).trans (h.mono (by omega))
  · have := h.size; omega

/-- 'string(b[:k])' of a row that begins with these bytes. -/
theorem conv_of_filled {w : World} {bb k cap : Nat} {d : List UInt8} (h : Filled bb d w) (hk : d.length = k) : (convert 35 9 (.slice (some ⟨bb, 0, none⟩) k cap)).run Tryd.prog w = .ok (.string ⟨d.toArray⟩) w := by
  obtain ⟨row, hh, hc⟩ := h
  have hs : strOfNums (d.map fun x => (x.toNat : Int)) = ⟨d.toArray⟩ := by
    unfold strOfNums
    congr 2
    rw [List.map_map]
    conv => rhs; rw [← List.map_id d]
    apply List.map_congr_left
    intro x _
    simp
  rw [← hs]
  refine run_convert_bytes_arg (P := Tryd.prog) w 35 5 Tryd.underlying35 Tryd.underlying5 bb 0 k cap (d.map fun x => (x.toNat : Int)) (by simpa using hk) (fun i hi => ?_) 9 Tryd.underlying9
  have hi' : i < d.length := by omega
  rw [Nat.zero_add, cell_at hh, hc i d[i] (List.getElem?_eq_getElem hi'), List.getD_eq_getElem?_getD, List.getElem?_map, List.getElem?_eq_getElem hi']; rfl

theorem kind_errV (ea : Addr) (c : Nat) (W : World) (hc1 : c ≤ 1) (hE : Eof ea W) : Calls Tryd.prog 19 #[errV ea c] W fun e w' => e = .returned (.int .i64 (c : Int)) ∧ W = w' := by
  unfold errV
  by_cases hc : c = 0
  · subst hc; exact kind_nil W
  · obtain rfl : c = 1 := by omega
    exact kind_eof ea W hE

theorem res_cells {w : World} {b : Nat} {x0 x1 x2 x3 y0 y1 y2 y3 : Value} {t : TypeId} (h : w.heap[b]? = some (.cells #[x0, x1, x2, x3] t (0, 0))) :
    ((((w.setCell ⟨b, 0, none⟩ y0).setCell ⟨b, 1, none⟩ y1).setCell ⟨b, 2, none⟩ y2).setCell ⟨b, 3, none⟩ y3).heap[b]? = some (.cells #[y0, y1, y2, y3] t (0, 0)) := by
  rw [heap_setCell_same _ _ _ _ _ _ (heap_setCell_same _ _ _ _ _ _ (heap_setCell_same _ _ _ _ _ _ (heap_setCell_same _ _ _ _ _ _ h)))]; rfl

theorem cells4 {w : World} {b : Nat} {y0 y1 y2 y3 : Value} {t : TypeId} (h : w.heap[b]? = some (.cells #[y0, y1, y2, y3] t (0, 0))) :
    (w.cell? ⟨b, 0, none⟩ = some y0 ∧ w.cell? ⟨b, 1, none⟩ = some y1 ∧ w.cell? ⟨b, 2, none⟩ = some y2 ∧ w.cell? ⟨b, 3, none⟩ = some y3) ∧
      (w.frozen? ⟨b, 0, none⟩ = false ∧ w.frozen? ⟨b, 1, none⟩ = false ∧ w.frozen? ⟨b, 2, none⟩ = false ∧ w.frozen? ⟨b, 3, none⟩ = false) :=
  ⟨⟨cell_at h 0, cell_at h 1, cell_at h 2, cell_at h 3⟩, frozen_at h 0, frozen_at h 1, frozen_at h 2, frozen_at h 3⟩

/-- A result that lies in a block of its own: an answer. -/
theorem res28 {fn : Func} {p : Tmp} (h : fn.results = #[.cell p 28]) (tmps : Array Value) (w : World) {b : Nat} {y0 y1 y2 y3 : Value} (hp : tmps.getD p undef = .pointer (some ⟨b, 0, none⟩))
    (hh : w.heap[b]? = some (.cells #[y0, y1, y2, y3] 28 (0, 0))) : (results fn tmps).run Tryd.prog w = .ok (.agg #[y0, y1, y2, y3]) w := by
  obtain ⟨⟨c0, c1, c2, c3⟩, _⟩ := cells4 hh
  have hp' : tmps[p]?.getD undef = .pointer (some ⟨b, 0, none⟩) := by simpa using hp
  simp only [results, h]
  simp [hp', go_sem, c0, c1, c2, c3]

theorem keep_chain (w : World) (b B : Nat) (y0 y1 y2 y3 : Value) : Keep b B w ((((w.setCell ⟨b, 0, none⟩ y0).setCell ⟨b, 1, none⟩ y1).setCell ⟨b, 2, none⟩ y2).setCell ⟨b, 3, none⟩ y3) :=
  ((((Keep.refl _ _ _).own _ _).own _ _).own _ _).own _ _

/-- The end of a function that returns an answer: it lies in a block of its own. -/
theorem ans_close_drew {fn : Func} {p : Tmp} {a : Act} {w : World} {b : Nat} {x0 x1 x2 x3 y0 y1 y2 y3 : Value} {R : Ending → World → Prop} (hres : fn.results = #[.cell p 28]) (hd : a.defers = [])
    (hb : w.heap[b]? = some (.cells #[x0, x1, x2, x3] 28 (0, 0))) (hp : a.tmps.getD p undef = .pointer (some ⟨b, 0, none⟩)) (hR : ∀ w', Keep b w.heap.size w w' → R (.returned (.agg #[y0, y1, y2, y3])) w') :
    bodyPost Tryd.prog fn R .ret a ((((w.setCell ⟨b, 0, none⟩ y0).setCell ⟨b, 1, none⟩ y1).setCell ⟨b, 2, none⟩ y2).setCell ⟨b, 3, none⟩ y3).drew :=
  bodyPost_ret (res28 hres _ _ hp (res_cells hb)) hd (hR _ (keep_chain w b _ y0 y1 y2 y3).drew)
theorem ans_close {fn : Func} {p : Tmp} {a : Act} {w : World} {b : Nat} {x0 x1 x2 x3 y0 y1 y2 y3 : Value} {R : Ending → World → Prop} (hres : fn.results = #[.cell p 28]) (hd : a.defers = [])
    (hb : w.heap[b]? = some (.cells #[x0, x1, x2, x3] 28 (0, 0))) (hp : a.tmps.getD p undef = .pointer (some ⟨b, 0, none⟩)) (hR : ∀ w', Keep b w.heap.size w w' → R (.returned (.agg #[y0, y1, y2, y3])) w') :
    bodyPost Tryd.prog fn R .ret a ((((w.setCell ⟨b, 0, none⟩ y0).setCell ⟨b, 1, none⟩ y1).setCell ⟨b, 2, none⟩ y2).setCell ⟨b, 3, none⟩ y3) :=
  bodyPost_ret (res28 hres _ _ hp (res_cells hb)) hd (hR _ (keep_chain w b _ y0 y1 y2 y3))

theorem ans_close_alloc {fn : Func} {p : Tmp} {a : Act} {w : World} {b : Nat} {o : Obj} {x0 x1 x2 x3 y0 y1 y2 y3 : Value} {R : Ending → World → Prop} (hres : fn.results = #[.cell p 28]) (hd : a.defers = [])
    (hb : w.heap[b]? = some (.cells #[x0, x1, x2, x3] 28 (0, 0))) (hp : a.tmps.getD p undef = .pointer (some ⟨b, 0, none⟩)) (hR : ∀ w', Keep b w.heap.size w w' → R (.returned (.agg #[y0, y1, y2, y3])) w') :
    bodyPost Tryd.prog fn R .ret a (((((w.setCell ⟨b, 0, none⟩ y0).setCell ⟨b, 1, none⟩ y1).setCell ⟨b, 2, none⟩ y2).setCell ⟨b, 3, none⟩ y3).alloc o) :=
  bodyPost_ret (res28 hres _ _ hp ((heap_alloc_old _ _ (by simpa using lt_of_heap hb)).trans (res_cells hb))) hd (hR _ ((keep_chain w b _ y0 y1 y2 y3).alloc (by simp) _))

/-- 'string([]byte{x})'. -/
theorem conv_one (x : UInt8) (w : World) : (convert 35 9 (.slice (some ⟨w.heap.size, 0, none⟩) 1 1)).run Tryd.prog (w.alloc (.cells #[.int .u8 ((x.toNat : Nat) : Int)] 5)) = .ok (.string ⟨#[x]⟩) (w.alloc (.cells #[.int .u8 ((x.toNat : Nat) : Int)] 5)) :=
  conv_of_filled (d := [x]) ⟨_, heap_alloc_new _ _, fun j y hj => by
    cases j with
    | zero => simp at hj; subst hj; rfl
    | succ j => simp at hj⟩ rfl

theorem two_blocks2 {rb : Nat} {W w2 : World} {o1 o2 : Obj} (h : Keep rb ((W.alloc o1).alloc o2).heap.size ((W.alloc o1).alloc o2) w2) (hr : rb < W.heap.size) : w2.heap[W.heap.size]? = some o1 ∧ w2.heap[W.heap.size + 1]? = some o2 := by
  have hs : ((W.alloc o1).alloc o2).heap.size = W.heap.size + 2 := by simp
  have e1 : W.heap.size + 1 = (W.alloc o1).heap.size := by simp
  constructor
  · rw [h.block _ (by omega) (by omega), heap_alloc_old _ _ (by simp), heap_alloc_new]
  · rw [h.block _ (by omega) (by omega), e1, heap_alloc_new]
end Go.Proofs.YthjecnbaconfjaaDoor
