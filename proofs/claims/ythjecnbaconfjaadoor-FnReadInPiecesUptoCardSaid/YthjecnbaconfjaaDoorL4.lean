/- laws.FnReadInPieces returns true for every input of bulk at most 1048576: buffers of any sizes, one after another, get the data in pieces, which are the data together; none of them is empty before the end, and there all are, with io.EOF. Conditions: that bound; io.EOF holds what its own initialiser lays (the card ties it). -/
import Derived.Test.YthjecnbaconfjaaDoorLf
import Derived.Test.YthjecnbaconfjaaDoorLp
import Derived.Test.YthjecnbaconfjaaDoorCards
import Derived.Test.YthjecnbaconfjaaDoorTie
namespace Go.Proofs.YthjecnbaconfjaaDoor.law4
open Go.ChangeShapes Go.WideShapes Go.ChangeAt Go.RowKit
open Go.ChangeMaps (open_string shut_string)

theorem laidOut : laidOutB Tryd.prog = true := by kernel_rfl

theorem bulk_lits {H : Type} (l : List Int) : l.length ≤ Rows.uptoBulkAll (lits (H := H) .i64 l) := by
  induction l with
  | nil => exact Nat.zero_le _
  | cons z r ih =>
    have e : lits (H := H) .i64 (z :: r) = DataW.lit (.int .i64 z) :: lits .i64 r := rfl
    rw [e]; simp only [Rows.uptoBulkAll, Rows.uptoBulk, List.length_cons]; omega

theorem contract (H : Type) (enc : TypeId × Value → H) (W : World) (base : Nat) (args : Array Value) (ds gs : List (DataW H)) (before : List MemPlace)
    (hval : ∀ (j : Nat) t v, Tryd.f4.params[j]? = some t → args[j]? = some v → Value.okWide Tryd.prog W .any base t v)
    (hW : DataW.Whole enc Tryd.prog Tryd.f4.params.toList Rows.fnReadInPiecesSpec.vars false W args.toList ds gs before)
    (hk : Rows.uptoSmall H (ds ++ gs) = true) (hL : laidMetH Tryd.prog Rows.fnReadInPiecesUptoRow.laid W) :
    Calls Tryd.prog 4 args W fun e W' => ∃ v, e = .returned v ∧ Rows.fnReadInPiecesSpec.post enc Tryd.prog Tryd.f4 false true false false W args v W' := by
  have hW' := hW
  obtain ⟨p, q, hA0, hV, rfl, hfz, hnd⟩ := hW
  have hA : DataW.TrodAll enc Tryd.prog W 0 (fun _ => true) true Tryd.f4.params.toList args.toList ds p := hA0
  rw [Tryd.params4] at hA hval
  obtain ⟨v0, vs0, d0, ds0, p0, q0, hargs, rfl, rfl, h0, r0⟩ := trodAll_cons hA
  obtain ⟨v1, vs1, d1, ds1, p1, q1, rfl, rfl, rfl, h1, r1⟩ := trodAll_cons r0
  obtain ⟨v2, vs2, d2, ds2, p2, q2, rfl, rfl, rfl, h2, r2⟩ := trodAll_cons r1
  obtain ⟨rfl, rfl, rfl⟩ := trodAll_nil r2
  obtain rfl : args = #[v0, v1, v2] := by cases args; simp_all
  obtain ⟨rfl, rfl⟩ := trodVars_none hV
  obtain ⟨b, rfl, rfl, rfl⟩ := open_bool Tryd.underlying4 (hval 0 4 v0 rfl rfl) h0
  obtain ⟨s, rfl, rfl, rfl, hs⟩ := open_string Tryd.underlying9 (hval 1 9 v1 rfl rfl) h1
  obtain ⟨a2, len2, cap2, rfl⟩ := okWide_slice Tryd.underlying30 (hval 2 30 v2 rfl rfl)
  have k2 := h2
  have lt2 : ∀ x ∈ p2, x.block < W.heap.size := by obtain ⟨m, hm⟩ := k2; exact DataW.trod_lt m _ _ _ hm
  have hbulk := of_decide_eq_true hk
  obtain ⟨zs, hZ, hlen⟩ : ∃ zs, IsRow W a2 len2 zs ∧ len2 ≤ Rows.uptoBulk d2 := by
    obtain ⟨fuel, hf⟩ := h2
    rcases open_ints Tryd.underlying30 Tryd.underlying3 (by kernel_rfl) hf with ⟨hcs, hx⟩ | ⟨x, l, c, zs, hcs, _, hl, hm, hz, hx, hcell, hwz⟩
    · simp [Value.cells] at hcs
      obtain ⟨rfl, rfl, rfl⟩ := hcs
      exact ⟨[], .inl ⟨rfl, rfl⟩, Nat.zero_le _⟩
    · simp [Value.cells] at hcs
      obtain ⟨rfl, rfl, rfl⟩ := hcs
      have hd : d2 = DataW.slice (lits .i64 (List.take len2 zs)) (lits .i64 (List.drop len2 zs)) := congrArg Prod.fst hx
      have hcl : zs.length = cap2 := by simpa using hz
      have hbl : len2 ≤ Rows.uptoBulk d2 := by
        have h1 := bulk_lits (H := H) (zs.take len2)
        have h2 : (zs.take len2).length = len2 := by rw [List.length_take]; omega
        rw [hd]; simp only [Rows.uptoBulk]; omega
      by_cases hl0 : len2 = 0
      · exact ⟨[], .inl ⟨hl0, rfl⟩, hbl⟩
      · obtain ⟨xb, xo, xs⟩ := x
        have hc0 := hcell 0 (by omega)
        have hsp : xs = none := by simpa [Addr.add] using World.cell?_spot hc0
        subst hsp
        have hadd : ∀ i, (⟨xb, xo, none⟩ : Addr).add i = ⟨xb, xo + i, none⟩ := fun i => by unfold Addr.add; split <;> simp_all
        refine ⟨zs.take len2, .inr ⟨xb, xo, rfl, by rw [List.length_take]; omega, ?_, fun i hi => ?_⟩, hbl⟩
        · exact World.block_lt_of_cell? W ⟨xb, xo, none⟩ (by rw [hadd, Nat.add_zero] at hc0; exact hc0)
        · have h1 := hcell i (by omega)
          rw [hadd] at h1
          rw [h1, List.getD_eq_getElem?_getD, List.getD_eq_getElem?_getD, List.getElem?_take_of_lt hi]
  have hl : s.size ≤ 1048576 ∧ len2 ≤ 1048576 := by
    simp only [List.append_nil, Rows.uptoBulkAll, Rows.uptoBulk] at hbulk
    rw [len_eq] at hbulk
    omega
  obtain ⟨ea, hE, hz⟩ := eof_of_laid hL
  clear hA0 hA r0 r1 r2
  refine (law4_walk b s a2 len2 cap2 zs ea W hE hz hl.1 hl.2 hZ).mono fun e W' ⟨he, bel⟩ => ?_
  subst he
  exact ⟨_, rfl, _, _, _, [], _, [], hW', trodAll_mk1 (shut_bool Tryd.underlying4 _), (trodAll_cons_mk (shut_bool Tryd.underlying4 _) (trodAll_cons_mk (shut_string Tryd.underlying9 hs) (trodAll_cons_mk (Below.trod laidOut (by kernel_rfl) (of_decide_eq_true (by kernel_rfl)) k2 bel lt2) trodAll_mk0))), rfl, bel.frame _, fun h => by cases h⟩

theorem reads (os : Os) {H : Type} (enc : TypeId × Value → H) : ∃ places, DataW.whole enc Tryd.prog ((laidWorld os).forCall (fun _ _ => 0) ⟨#[], #[.bool false, .string ⟨#[]⟩, .slice none 0 0], []⟩).memory Tryd.f4.params.toList Rows.fnReadInPiecesSpec.vars false #[Value.bool false, .string ⟨#[]⟩, .slice none 0 0].toList 8 = some ([.lit (.bool false), .lit (.string []), .nil], [], places) :=
  ⟨[], by kernel_rfl⟩

set_option maxRecDepth 100000 in
theorem lifted (os : Os) (started : os.Started) (H : Type) (enc : TypeId × Value → H) (F : Stop.Interp) :
    ReturnsInHanded {} Tryd.checked os 4 .any ((Rows.OpenSpec.upto Rows.fnReadInPiecesSpec).preRow enc Tryd.prog Tryd.f4 Rows.fnReadInPiecesUptoRow.domain false Rows.fnReadInPiecesUptoRow.laid) (((Rows.OpenSpec.upto Rows.fnReadInPiecesSpec).at F).post enc Tryd.prog Tryd.f4 false true false false) := by
  obtain ⟨places, hx⟩ := reads os enc
  refine returnsInHanded_of_row (C := Tryd.checked) (s := Rows.OpenSpec.upto Rows.fnReadInPiecesSpec) own started (by kernel_rfl) Tryd.func4
    (witness_row_at (enc := enc) (C := Tryd.checked) false (laidWorld os) #[.bool false, .string ⟨#[]⟩, .slice none 0 0] rfl (by kernel_rfl) (by kernel_rfl) (by kernel_rfl)
      (OpenSpec.preRow_of_cond 8 hx (by kernel_rfl) (fun k hk => by cases hk; kernel_rfl) (by kernel_rfl) (laid_met os _))) ?_
  intro W base args ds gs before hval hW _ hcond _ hL _ _
  exact contract H enc W base args ds gs before hval hW (hcond _ rfl) hL

theorem said : Rows.FnReadInPiecesUptoSaid :=
  OpenClaim.holds_of_cond 4 Tryd.f4 rfl rfl rfl rfl rfl rfl rfl ⟨rfl, rfl, rfl, rfl, rfl⟩ rfl rfl rfl rfl rfl (by kernel_rfl) Tryd.func4 (by kernel_rfl)
    (of_decide_eq_true (by kernel_rfl)) (by unfold Func.isWrapper; first | (rw [if_pos (by decide +kernel)]; kernel_rfl) | (rw [if_neg (by decide +kernel)]; exact ⟨rfl, rfl⟩))
    (fun os started H enc _ F => by rw [OpenClaim.pre_eq_preRow]; exact lifted os started H enc F)

/-- No parameter wants a stand-in; the program's own looks: what the card asks. -/
theorem plain (f : FuncId) (fn : Func) (hf : Tryd.pinned.checked.prog.funcNamed "lib-leatgate/laws.FnReadInPieces" = some f) (hfn : Tryd.pinned.checked.prog.funcs[f]? = some fn) :
    true = Tryd.pinned.checked.prog.looks [] ∧ ∀ (j : Nat) t, fn.params[j]? = some t → Tryd.pinned.checked.prog.wantsStandIn t = false := by
  obtain rfl : f = 4 := Option.some.inj ((show Tryd.prog.funcNamed "lib-leatgate/laws.FnReadInPieces" = some 4 by kernel_rfl).symm.trans hf) |>.symm
  obtain rfl : fn = Tryd.f4 := (Option.some.inj (Tryd.func4.symm.trans hfn)).symm
  refine ⟨by kernel_rfl, fun j t ht => ?_⟩
  rw [Tryd.params4] at ht
  have hm : t = 4 ∨ t = 9 ∨ t = 30 := by simpa using Array.mem_of_getElem? ht
  rcases hm with rfl | rfl | rfl
  · exact (show Tryd.prog.wantsStandIn 4 = false by kernel_rfl)
  · exact (show Tryd.prog.wantsStandIn 9 = false by kernel_rfl)
  · exact (show Tryd.prog.wantsStandIn 30 = false by kernel_rfl)

theorem card : Rows.FnReadInPiecesUptoCardSaid :=
  Claim7.holds_tied_plain_at .later [] _ _ _ _ said (fun _ h => by cases h) (by kernel_rfl) (fun _ h => by cases h) fnReadInPiecesUpto_row_tie rfl ⟨rfl, rfl⟩ (by kernel_rfl) rfl plain (by kernel_rfl)
end Go.Proofs.YthjecnbaconfjaaDoor.law4
#print axioms Go.Proofs.YthjecnbaconfjaaDoor.law4.card
