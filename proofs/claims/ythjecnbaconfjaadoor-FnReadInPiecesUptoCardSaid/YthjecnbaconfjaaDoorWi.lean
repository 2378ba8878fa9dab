/- What the thin package's own helpers do: kind of an error, buffer of a size. -/
import Derived.Test.YthjecnbaconfjaaDoorWb
import Derived.LaidEql
import Derived.StillTailTactics
import Derived.Deep.DeepMust
namespace Go.Proofs.YthjecnbaconfjaaDoor
open Go.RowKit

theorem A.comp70 : (Tryd.prog.info? 70).map (·.comparable) = some true := by kernel_rfl
theorem A.size93 : (Tryd.prog.info? 93).map (·.size) = some 1 := by kernel_rfl
theorem A.info5 : (Tryd.prog.info? 5).map (fun i => (i.zero, i.size, i.bytes)) = some (some (.int .u8 0), 1, 1) := by kernel_rfl

theorem kind_nil (W : World) : Calls Tryd.prog 19 #[.nilIface] W fun e w' => e = .returned (.int .i64 0) ∧ W = w' := by
  go_enter Tryd.func19, Tryd.ntmps19
  go_wp2
  go_ret
  exact ⟨rfl, rfl⟩

theorem kind_eof (ea : Addr) (W : World) (hE : Eof ea W) : Calls Tryd.prog 19 #[.iface 70 (.pointer (some ea))] W fun e w' => e = .returned (.int .i64 1) ∧ W = w' := by
  have hE' : W.cell? ⟨0, 0, none⟩ = some (.iface 70 (.pointer (some ea))) := hE
  clear hE
  obtain ⟨i, hi, hcmp⟩ := Option.map_eq_some_iff.1 A.comp70
  obtain ⟨j, hj, _⟩ := Option.map_eq_some_iff.1 A.size93
  go_enter Tryd.func19, Tryd.ntmps19
  go_wp2
  rw [run_eql_iface_ptr_same W ea Tryd.underlying52 Tryd.underlying70 hi hcmp hj]
  go_wp2
  go_ret
  exact ⟨rfl, rfl⟩

/-- The size of a buffer. -/
def clamp (n : Int) : Nat := (min (max n 0) 4096).toNat
theorem clamp_le (n : Int) : clamp n ≤ 4096 := by unfold clamp; omega
theorem clamp_cast (n : Int) : ((clamp n : Nat) : Int) = min (max n 0) 4096 := by unfold clamp; omega

/-- A row whose size is that of the slice over it. -/
def Buf (bb n : Nat) (w : World) : Prop := ∃ cur : Array Value, w.heap[bb]? = some (.cells cur 5 (0, 0)) ∧ cur.size = n

theorem buf_of_owns {w w1 : World} {m : Nat} (h : w1.ownsRow w.heap.size 5 1 (.slice (some ⟨w.heap.size, 0, none⟩) m m) m (madeCells (Value.int .u8 0).cells (m * 1)).toList) : Buf w.heap.size m w1 := by
  obtain ⟨_, h | ⟨g, cap, cur, hv, _, hh, _, _, hs, _⟩⟩ := h
  · simp at h
  · simp only [Value.slice.injEq, Option.some.injEq, Addr.mk.injEq, and_true, true_and] at hv
    obtain ⟨rfl, rfl⟩ := hv
    exact ⟨cur, hh, by omega⟩
theorem below_of_grown {w w1 : World} (h : w.grownBy w1 none) : Below w.heap.size w w1 := (Below.refl _ _).grown h (Nat.le_refl _) (fun _ e => by cases e)

theorem buffer_any (n : Int) (W : World) (h1 : -9223372036854775808 ≤ n) (h2 : n ≤ 9223372036854775807) :
    Calls Tryd.prog 18 #[.int .i64 n] W fun e w' => e = .returned (.slice (some ⟨W.heap.size, 0, none⟩) (clamp n) (clamp n)) ∧ Buf W.heap.size (clamp n) w' ∧ Below W.heap.size W w' := by
  obtain ⟨i0, hi, hz0, hz1, hz2⟩ := info_parts A.info5
  have hc := clamp_cast n
  have hcl := clamp_le n
  have hby : i0.bytes * clamp n ≤ 281474976710656 := by rw [hz2]; omega
  have hml : clamp n ≤ maxLen := by unfold maxLen; omega
  generalize clamp n = m at *
  have HI := Lib.hid hi
  have H0 := Lib.hid hz0
  have H1 := Lib.hid hz1
  clear hi hz0 hz1 hz2
  by_cases hneg : n < 0
  · have HM : Hid ((0 : Int) = (m : Int)) := by show _ = _; omega
    clear hc
    go_enter Tryd.func18, Tryd.ntmps18
    go_wp2_with (at_make; refine wpList_make_full _ rfl (.tmp 5) (.tmp 5) 35 rfl W.heap.size 5 i0 (.int .u8 0) 1 Tryd.underlying35 HI.out H0.out H1.out .i64 .i64 _ _ m rfl rfl HM.out HM.out hby hml (Nat.le_refl _) ?_; intro w1 ho1 hg1)
    go_ret
    exact ⟨rfl, buf_of_owns ho1, below_of_grown hg1⟩
  · by_cases hbig : n ≤ 4096
    · have HM : Hid (n = (m : Int)) := by show _ = _; omega
      clear hc
      go_enter Tryd.func18, Tryd.ntmps18
      go_wp2_with (at_make; refine wpList_make_full _ rfl (.tmp 5) (.tmp 5) 35 rfl W.heap.size 5 i0 (.int .u8 0) 1 Tryd.underlying35 HI.out H0.out H1.out .i64 .i64 _ _ m rfl rfl HM.out HM.out hby hml (Nat.le_refl _) ?_; intro w1 ho1 hg1)
      go_ret
      exact ⟨rfl, buf_of_owns ho1, below_of_grown hg1⟩
    · have HM : Hid ((4096 : Int) = (m : Int)) := by show _ = _; omega
      have hge : 4096 < n := by omega
      clear hc
      go_enter Tryd.func18, Tryd.ntmps18
      go_wp2_with (at_make; refine wpList_make_full _ rfl (.tmp 5) (.tmp 5) 35 rfl W.heap.size 5 i0 (.int .u8 0) 1 Tryd.underlying35 HI.out H0.out H1.out .i64 .i64 _ _ m rfl rfl HM.out HM.out hby hml (Nat.le_refl _) ?_; intro w1 ho1 hg1)
      go_ret
      exact ⟨rfl, buf_of_owns ho1, below_of_grown hg1⟩
end Go.Proofs.YthjecnbaconfjaaDoor
