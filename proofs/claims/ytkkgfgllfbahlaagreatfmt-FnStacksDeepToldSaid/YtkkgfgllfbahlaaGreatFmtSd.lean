/- FnStacksDeep: for every tree, its law answers true and leaves what came in as it was: told and tied, by the seat's own card. -/
import Derived.Test.YtkkgfgllfbahlaaGreatFmtCards
import Derived.Test.YtkkgfgllfbahlaaGreatFmtTie
import Derived.Test.YtkkgfgllfbahlaaGreatFmtDt
import Derived.Test.YtkkgfgllfbahlaaGreatFmtSr
set_option linter.unusedVariables false
set_option linter.unusedSimpArgs false
namespace Go.Proofs.YtkkgfgllfbahlaaGreatFmt
open Go Go.RowKit Go.Proofs.YtkkgfgllfbahlaaGreatFmt
open Go.ChangeShapes Go.WideShapes Go.ChangeAt

theorem trodAll1 {H : Type} {enc : TypeId × Value → H} {w : World} {base : Nat} {sp : Nat → Bool} {held : Bool} {t : TypeId} {vs : List Value} {ds : List (DataW H)} {ps : List MemPlace} (h : DataW.TrodAll enc Tryz.prog w base sp held [t] vs ds ps) :
    ∃ v d p, vs = [v] ∧ ds = [d] ∧ DataW.Trod enc Tryz.prog w base sp held t v d p := by
  match vs, ds, h with
  | [v], [d], ⟨p, q, h1, h2, e⟩ => exact ⟨v, d, p, rfl, rfl, h1⟩
  | [], _, h => cases h
  | [_], [], h => cases h
  | _ :: _ :: _, _ :: _, ⟨_, _, _, h, _⟩ => cases h
  | [_], _ :: _ :: _, ⟨_, _, _, h, _⟩ => cases h
  | _ :: _ :: _, [], h => cases h
set_option maxRecDepth 100000 in
theorem deep_lifted (os : Os) (started : os.Started) (H : Type) (enc : TypeId × Value → H) :
    ReturnsInTold Rows.fnStacksDeepRow.shortTexts Rows.fnStacksDeepRow.assume Tryz.pinned.checked os 8 .any Input.okWide ((OpenSpec.ofChange Rows.fnStacksDeepSpec).preRow enc Tryz.prog Tryz.f8 Rows.fnStacksDeepRow.domain Rows.fnStacksDeepRow.apart Rows.fnStacksDeepRow.laid)
      (fun F => ((OpenSpec.ofChange Rows.fnStacksDeepSpec).at F).post enc Tryz.prog Tryz.f8 Rows.fnStacksDeepRow.apart Rows.fnStacksDeepRow.fresh Rows.fnStacksDeepRow.handsOn Rows.fnStacksDeepRow.again) (aloneAtReturn Tryz.prog) nothingAlways := by
  refine returnsInTold_of_row (C := Tryz.checked) (s := OpenSpec.ofChange Rows.fnStacksDeepSpec) (by kernel_rfl) own started (by kernel_rfl) Tryz.func8
    (OpenSpec.witness_stopped_at (enc := enc) (C := Tryz.checked) false (World.doorLaid Tryz.prog 400 os) #[.agg #[.string ⟨#[]⟩, .string ⟨#[]⟩, .slice none 0 0]] rfl (by kernel_rfl) (by kernel_rfl) (by kernel_rfl)
      (OpenSpec.preRow_of_B rfl 8 (by kernel_rfl) (by kernel_rfl) (door_met os _))) ?_
  intro F W base args ds gs before _ hF hval0 hW _ _ _ hL _
  have hval : ∀ (j : Nat) t v, Tryz.f8.params[j]? = some t → args[j]? = some v → Value.okWide Tryz.prog W .any base t v := hval0
  have hW' := hW
  have htok := tok_of_laid hL
  obtain ⟨p, q, hA0, hV, -, -, -⟩ := hW
  have hA : DataW.TrodAll enc Tryz.prog W 0 (fun _ => true) true Tryz.f8.params.toList args.toList ds p := hA0
  rw [Tryz.params8] at hA hval
  obtain ⟨v0, d0, p0, hvs, rfl, h0⟩ := trodAll1 hA
  obtain rfl : args = #[v0] := by
    obtain ⟨l⟩ := args
    simp only at hvs
    rw [hvs]
  obtain ⟨g, t, cs, fuel, dv, pv, hgs, -⟩ := trodVars_one hV
  subst hgs
  obtain ⟨cv, rfl, hsz⟩ := okWide_struct Tryz.underlying24 (hval 0 24 v0 rfl rfl)
  obtain ⟨k0, h0⟩ := h0
  obtain ⟨n, kv, hcs, hn⟩ := nd_of_trod k0 _ _ h0
  obtain rfl : cv = #[.string n.kind, .string n.text, kv] := by
    obtain ⟨l⟩ := cv
    have h : l = [.string n.kind, .string n.text, kv] := by simpa [Value.cells] using hcs
    rw [h]
  have hpos : 0 < W.heap.size := World.block_lt_of_cell? W ⟨0, 0, none⟩ (htok 0 (by decide))
  refine (law_deep n kv W hn htok hpos).mono fun e W' ⟨he, hb⟩ => ?_
  subst he
  exact ⟨_, rfl, post_true (s := Rows.fnStacksDeepSpec) hb hW' rfl (of_decide_eq_true (by kernel_rfl)) rfl rfl⟩

set_option maxRecDepth 100000 in
theorem fnStacksDeep_holds : Rows.FnStacksDeepToldSaid :=
  Claim7.holds_of_told_tied_any_at .later 8 Tryz.f8 "fmt.Sprintf, its operands' methods called" [] [] _ _ _ _ _ (by kernel_rfl) rfl rfl rfl laidOut (by kernel_rfl) rfl ⟨rfl, rfl, rfl, rfl, rfl, rfl, rfl⟩ rfl rfl (by kernel_rfl) (by kernel_rfl) Tryz.func8 (by kernel_rfl)
    (of_decide_eq_true (by kernel_rfl)) (of_decide_eq_true (by kernel_rfl)) (by kernel_rfl) rfl stopKnobs.symm (by kernel_rfl)
    (by kernel_rfl) (by kernel_rfl) (by kernel_rfl) (by kernel_rfl) (by kernel_rfl) (by kernel_rfl) (by kernel_rfl) (by kernel_rfl) (by kernel_rfl) rfl (by kernel_rfl) rfl rfl
    rfl rfl
    rfl (by kernel_rfl) (by kernel_rfl) (by kernel_rfl) (by decide) (by kernel_rfl) fnStacksDeep_row_tie
    (OpenClaim.moreEntering_of (by kernel_rfl) (by kernel_rfl) (by kernel_rfl) (by kernel_rfl) (by kernel_rfl) (by kernel_rfl) (by kernel_rfl) (by kernel_rfl) (by kernel_rfl) (by kernel_rfl))
    ⟨_, WideRow.started_initial, quietS _⟩
    (fun os started _ H enc _ => deep_lifted os started H enc)
#print axioms fnStacksDeep_holds
end Go.Proofs.YtkkgfgllfbahlaaGreatFmt
