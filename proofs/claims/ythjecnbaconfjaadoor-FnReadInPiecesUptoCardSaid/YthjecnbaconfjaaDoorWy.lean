/- laws.play over both readers: one answer for each call of the script, each as the reader's offset says. Conditions: the script is one of Read, ReadByte, ReadAt and Seek to a place within the data, it lies in memory as stated, and its answers take at most 2^47 bytes. -/
import Derived.Test.YthjecnbaconfjaaDoorWp
namespace Go.Proofs.YthjecnbaconfjaaDoor
open Go.RowKit

theorem own_mono {w : World} {b b' : Nat} {e : TypeId} {size : Nat} {v : Value} {n : Nat} {xs : List Value} (h : w.ownsRow b e size v n xs) (hb : b' ≤ b) : w.ownsRow b' e size v n xs := by
  obtain ⟨h1, h2⟩ := h
  refine ⟨h1, ?_⟩
  rcases h2 with h2 | ⟨g, cap, cur, hv, hg, r⟩
  · exact Or.inl h2
  · exact Or.inr ⟨g, cap, cur, hv, by omega, r⟩
theorem bytes_below (W : World) (s : ByteArray) : Below W.heap.size W (Lib.bytesWorld W 5 s) :=
  ⟨rfl, rfl, rfl, by rw [Lib.bytesWorld_size]; omega, fun k hk => Lib.bytesWorld_at_old W 5 s k hk⟩
theorem bytes_data (W : World) (s : ByteArray) (hl : s.size ≤ 140737488351232) : Bytes W.heap.size (grownCap W s.size 0 5) s (Lib.bytesWorld W 5 s) := by
  refine ⟨grownCap_ge _ _ _ _, grownCap_le_maxLen _ _ _ _ (by unfold maxLen; omega), fun j hj => ?_⟩
  rw [Lib.bytesWorld_cell W 5 s j hj, List.getD_eq_getElem?_getD, List.getElem?_eq_getElem (by rw [len_eq]; exact hj)]; rfl

/-- What play returns. -/
def Played (s : ByteArray) (cs : List Cl) (n : Nat) (W : World) (e : Ending) (w' : World) : Prop := ∃ v, e = .returned v ∧ w'.ownsRow W.heap.size 28 4 v n (ansVals (answers s 0 cs)) ∧ Below W.heap.size W w'

theorem play_any (b : Bool) (sb scap : Nat) (s : ByteArray) (cs : List Cl) (n : Nat) (ea : Addr) (W : World) (hS : Script sb cs W) (hsb : sb < W.heap.size) (hE : Eof ea W) (h0 : 0 < W.heap.size) (hn : cs.length = n) (hn40 : n * 40 ≤ 140737488355328)
    (hl : s.size ≤ 140737488351232) (hc : ∀ c ∈ cs, okCl s c) : Calls Tryd.prog 6 #[.bool b, .string s, .slice (some ⟨sb, 0, none⟩) n scap] W (Played s cs n W) := by
  have HS := Lib.hid hS
  have HE := Lib.hid hE
  have HN := Lib.hid hn
  have HC := Lib.hid hc
  clear hS hE hn hc
  cases b with
  | false =>
    go_enter Tryd.func6, Tryd.ntmps6
    go_wp2_with fail
    refine (s_play sb scap s cs n ea W HS.out hsb HE.out h0 HN.out hn40 hl HC.out).mono ?_
    rintro e w' ⟨v, rfl, h1, h2⟩
    have H1 := Lib.hid h1
    have H2 := Lib.hid h2
    clear h1 h2
    go_wp2
    go_ret
    exact ⟨v, rfl, own_mono H1.out (by omega), H2.out⟩
  | true =>
    have hconv := Lib.run_convert_string_bytes (P := Tryd.prog) W 9 35 5 s Tryd.underlying9 Tryd.underlying35 Tryd.underlying5
    have hb := bytes_below W s
    have hz : W.heap.size + 1 = (Lib.bytesWorld W 5 s).heap.size := (Lib.bytesWorld_size W 5 s).symm
    have hS1 : Script sb cs (Lib.bytesWorld W 5 s) := fun j c hj => by
      obtain ⟨g0, g1, g2, g3, g4⟩ := HS.out j c hj
      exact ⟨(hb.cell (p := ⟨sb, _, none⟩) hsb).trans g0, (hb.cell (p := ⟨sb, _, none⟩) hsb).trans g1, (hb.cell (p := ⟨sb, _, none⟩) hsb).trans g2, (hb.cell (p := ⟨sb, _, none⟩) hsb).trans g3, (hb.cell (p := ⟨sb, _, none⟩) hsb).trans g4⟩
    have hp := b_play W.heap.size (grownCap W s.size 0 5) sb scap s cs n ea (Lib.bytesWorld W 5 s) (bytes_data W s hl) (by omega) hS1 (by omega) ((hb.cell (p := ⟨0, 0, none⟩) h0).trans HE.out) (by omega) HN.out hn40 hl HC.out
    have HP := Lib.hid hp
    have HBl := Lib.hid hb
    have HZ := Lib.hid hz
    clear hb hz hS1 hp
    go_enter Tryd.func6, Tryd.ntmps6
    go_wp2_with fail
    refine HP.out.mono ?_
    rintro e w' ⟨v, rfl, h1, h2⟩
    have H1 := Lib.hid h1
    have H2 : Hid (Below W.heap.size W w') := HBl.out.trans (h2.mono (by rw [← HZ.out]; omega))
    have HZ2 := HZ.out
    clear h1 h2
    go_wp2
    go_ret
    exact ⟨v, rfl, own_mono H1.out (by omega), H2.out⟩
end Go.Proofs.YthjecnbaconfjaaDoor
