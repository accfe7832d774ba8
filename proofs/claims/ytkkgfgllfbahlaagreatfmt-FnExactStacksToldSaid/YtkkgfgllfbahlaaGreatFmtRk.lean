/- FnExactStacks: for every tree and text, its law answers true and leaves what came in as it was: told and tied, by the seat's own card. -/
import Derived.Test.YtkkgfgllfbahlaaGreatFmtCards
import Derived.Test.YtkkgfgllfbahlaaGreatFmtTie
import Derived.Test.YtkkgfgllfbahlaaGreatFmtDt
import Derived.Test.YtkkgfgllfbahlaaGreatFmtSp
set_option linter.unusedVariables false
set_option linter.unusedSimpArgs false
namespace Go.Proofs.YtkkgfgllfbahlaaGreatFmt
open Go Go.RowKit Go.Proofs.YtkkgfgllfbahlaaGreatFmt
open Go.ChangeShapes Go.WideShapes Go.ChangeAt

set_option maxRecDepth 100000 in
theorem stacks_lifted (os : Os) (started : os.Started) (H : Type) (enc : TypeId × Value → H) :
    ReturnsInTold Rows.fnExactStacksRow.shortTexts Rows.fnExactStacksRow.assume Tryz.pinned.checked os 7 .any Input.okWide ((OpenSpec.ofChange Rows.fnExactStacksSpec).preRow enc Tryz.prog Tryz.f7 Rows.fnExactStacksRow.domain Rows.fnExactStacksRow.apart Rows.fnExactStacksRow.laid)
      (fun F => ((OpenSpec.ofChange Rows.fnExactStacksSpec).at F).post enc Tryz.prog Tryz.f7 Rows.fnExactStacksRow.apart Rows.fnExactStacksRow.fresh Rows.fnExactStacksRow.handsOn Rows.fnExactStacksRow.again) (aloneAtReturn Tryz.prog) nothingAlways := by
  refine returnsInTold_of_row (C := Tryz.checked) (s := OpenSpec.ofChange Rows.fnExactStacksSpec) (by kernel_rfl) own started (by kernel_rfl) Tryz.func7
    (OpenSpec.witness_stopped_at (enc := enc) (C := Tryz.checked) false (World.doorLaid Tryz.prog 400 os) #[.agg #[.string ⟨#[]⟩, .string ⟨#[]⟩, .slice none 0 0], .string ⟨#[]⟩] rfl (by kernel_rfl) (by kernel_rfl) (by kernel_rfl)
      (OpenSpec.preRow_of_B rfl 8 (by kernel_rfl) (by kernel_rfl) (door_met os _))) ?_
  intro F W base args ds gs before _ hF hval0 hW _ _ _ hL _
  have hval : ∀ (j : Nat) t v, Tryz.f7.params[j]? = some t → args[j]? = some v → Value.okWide Tryz.prog W .any base t v := hval0
  have hW' := hW
  have htok := tok_of_laid hL
  obtain ⟨p, q, hA0, hV, -, -, -⟩ := hW
  have hA : DataW.TrodAll enc Tryz.prog W 0 (fun _ => true) true Tryz.f7.params.toList args.toList ds p := hA0
  rw [Tryz.params7] at hA hval
  obtain ⟨v0, v1, d0, d1, p0, p1, hvs, rfl, h0, h1⟩ := trodAll2 hA
  obtain rfl : args = #[v0, v1] := by
    obtain ⟨l⟩ := args
    simp only at hvs
    rw [hvs]
  obtain ⟨g, t, cs, fuel, dv, pv, hgs, -⟩ := trodVars_one hV
  subst hgs
  obtain ⟨s, rfl, -⟩ := Go.ChangeMaps.open_string Tryz.underlying9 (hval 1 9 v1 rfl rfl) h1
  obtain ⟨cv, rfl, hsz⟩ := okWide_struct Tryz.underlying24 (hval 0 24 v0 rfl rfl)
  obtain ⟨k0, h0⟩ := h0
  obtain ⟨n, kv, hcs, hn⟩ := nd_of_trod k0 _ _ h0
  obtain rfl : cv = #[.string n.kind, .string n.text, kv] := by
    obtain ⟨l⟩ := cv
    have h : l = [.string n.kind, .string n.text, kv] := by simpa [Value.cells] using hcs
    rw [h]
  have hpos : 0 < W.heap.size := World.block_lt_of_cell? W ⟨0, 0, none⟩ (htok 0 (by decide))
  refine (law_stacks n s kv W hn htok hpos).mono fun e W' ⟨he, hb⟩ => ?_
  subst he
  exact ⟨_, rfl, post_true (s := Rows.fnExactStacksSpec) hb hW' rfl (of_decide_eq_true (by kernel_rfl)) rfl rfl⟩

set_option maxRecDepth 100000 in
theorem fnExactStacks_holds : Rows.FnExactStacksToldSaid :=
  Claim7.holds_of_told_tied_any_at .later 7 Tryz.f7 "fmt.Sprintf, its operands' methods called" [] [] _ _ _ _ _ (by kernel_rfl) rfl rfl rfl laidOut (by kernel_rfl) rfl ⟨rfl, rfl, rfl, rfl, rfl, rfl, rfl⟩ rfl rfl (by kernel_rfl) (by kernel_rfl) Tryz.func7 (by kernel_rfl)
    (of_decide_eq_true (by kernel_rfl)) (of_decide_eq_true (by kernel_rfl)) (by kernel_rfl) rfl stopKnobs.symm (by kernel_rfl)
    (by kernel_rfl) (by kernel_rfl) (by kernel_rfl) (by kernel_rfl) (by kernel_rfl) (by kernel_rfl) (by kernel_rfl) (by kernel_rfl) (by kernel_rfl) rfl (by kernel_rfl) rfl rfl
    rfl rfl
    rfl (by kernel_rfl) (by kernel_rfl) (by kernel_rfl) (by decide) (by kernel_rfl) fnExactStacks_row_tie
    (OpenClaim.moreEntering_of (by kernel_rfl) (by kernel_rfl) (by kernel_rfl) (by kernel_rfl) (by kernel_rfl) (by kernel_rfl) (by kernel_rfl) (by kernel_rfl) (by kernel_rfl) (by kernel_rfl))
    ⟨_, WideRow.started_initial, quietS _⟩
    (fun os started _ H enc _ => stacks_lifted os started H enc)
#print axioms fnExactStacks_holds
end Go.Proofs.YtkkgfgllfbahlaaGreatFmt
