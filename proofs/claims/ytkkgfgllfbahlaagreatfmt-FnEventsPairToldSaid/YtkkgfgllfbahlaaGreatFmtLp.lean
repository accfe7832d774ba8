/- The law on the balance of Events answers true.
FnEventsPair: for every tree, its law answers true and leaves what came in as it was: told and tied, by the seat's own card. -/
import Derived.Test.YtkkgfgllfbahlaaGreatFmtRi
import Derived.Test.YtkkgfgllfbahlaaGreatFmtSe
import Derived.Test.YtkkgfgllfbahlaaGreatFmtShU
import Derived.Test.YtkkgfgllfbahlaaGreatFmtCards
import Derived.Test.YtkkgfgllfbahlaaGreatFmtTie
import Derived.Test.YtkkgfgllfbahlaaGreatFmtDt
set_option linter.unusedVariables false
set_option linter.unusedSimpArgs false
namespace Go.Proofs.YtkkgfgllfbahlaaGreatFmt
open Go Go.RowKit
set_option linter.unusedSimpArgs false

set_option maxRecDepth 100000 in
set_option maxHeartbeats 4000000 in
theorem law_pair (n : Nd) (kv : Value) (w : World) (hn : NdK w.heap.size w n kv) (htok : TokTab w) (h0 : 0 < w.heap.size) :
    Calls Tryz.prog 5 #[nodeV n kv] w fun e w' => e = .returned (.bool true) ∧ Bel w w' := by
  obtain ⟨a, cap, hv, hcap, hmx⟩ := hn.slice
  subst hv
  have hb : Bel w (w.alloc (.cells #[.string n.kind, .string n.text, .slice a n.kids.length cap] 24)) := (by repeat (first | exact Bel.refl _ | assumption | refine Bel.alloc ?_ _ | refine Bel.drew ?_ | refine Bel.set ?_ (by first | exact Nat.le_refl _ | (simp; done) | (simp; omega)) _))
  obtain ⟨fb, hfb⟩ := fits_tells n (.slice a n.kids.length cap) (w.alloc (.cells #[.string n.kind, .string n.text, .slice a n.kids.length cap] 24)) (hn.later hb)
  have HF := hide hfb
  have HS := hide (fun (W : World) (hW : Bel w W) => shaped_tells n (.slice a n.kids.length cap) W (hn.later hW))
  have HTK := hide htok
  have HN := hide hn
  clear hn hfb htok
  unfold Tells nodeV at HF HS
  unfold nodeV
  go_enter Tryz.func5, Tryz.ntmps5
  go_wp2_with fail
  refine HF.out.mono ?_
  rintro e w1 ⟨rfl, hT1⟩
  have hw1 : Bel w w1 := hb.trans hT1
  have c1 := hT1.at (b := w.heap.size) (by simp)
  have l1 : w.heap.size < w1.heap.size := by have := hT1.le; simp at this; omega
  cases fb
  · go_wp2_with fail
    go_ret
    exact ⟨rfl, hw1⟩
  go_wp2_with fail
  refine (HS.out w1 hw1).mono ?_
  rintro e w2 ⟨rfl, hT2⟩
  have hw2 : Bel w w2 := hw1.trans hT2
  have c2 := hT2.at (b := w.heap.size) l1
  have l2 : w.heap.size < w2.heap.size := by have := hT2.le; omega
  cases hsh : shaped n
  · go_wp2_with fail
    go_ret
    exact ⟨rfl, hw2⟩
  have hsS : shS n = true := by simp [shaped] at hsh; exact hsh.2
  have hs400 : n.nodes ≤ 400 := few_nodes (by simp [shaped] at hsh; exact hsh.1)
  have hsz := (xt_size n).1
  have hne : neX (xtN n) = true := by rw [← bS_xt n.nodes n [] (Nat.le_refl _) hsS]; exact Ast.xt_ne _
  obtain ⟨hbal, hpos, hlen⟩ := evX_bal (xtN n) hne
  have hpp := evX_pos ⟨#[]⟩ (xtN n)
  have hll : (evX ⟨#[]⟩ (xtN n)).length ≤ 4000 := by omega
  have hyl : ((preX (xtN n)).take (max 1 (1000 : Int).toNat)).length = (xtN n).size := by
    rw [List.length_take, preX_len]
    have : (max 1 (1000 : Int).toNat) = 1000 := rfl
    rw [this]
    omega
  have HI := hide (fun (W : World) (hW : Bel w W) => yields_impl n hsS hs400 1000 (.slice a n.kids.length cap) W (HN.out.later hW) (HTK.out.bel h0 hW) (Nat.lt_of_lt_of_le h0 hW.le))
  have HV := hide (fun (W : World) (hW : Bel w W) => events_impl n hsS hs400 ⟨#[]⟩ (.slice a n.kids.length cap) W (HN.out.later hW) (HTK.out.bel h0 hW) (Nat.lt_of_lt_of_le h0 hW.le))
  unfold nodeV at HI HV
  generalize evX ⟨#[]⟩ (xtN n) = L at HV hbal hpos hlen hpp hll
  generalize (preX (xtN n)).take (max 1 (1000 : Int).toNat) = Y at HI hyl
  have HP := hide (show _ ∧ _ ∧ _ from ⟨hbal, hpos, hlen⟩)
  clear hpos hlen hbal
  go_wp2_with fail
  with_reducible refine Calls.mono (HV.out _ hw2) ?_
  rintro e w3 ⟨a3, k3, rfl, hown3, hT3⟩
  have hw3 : Bel w w3 := hw2.trans hT3
  have c3 := hT3.at (b := w.heap.size) l2
  have l3 : w.heap.size < w3.heap.size := by have := hT3.le; omega
  obtain ⟨g3, q3, hv3, -, hl3, hp3, hr3, hs3⟩ := own_str hown3 hpp
  injection hv3 with f1 f2 f3
  subst f1 f3
  have HO3 := hide hs3
  unfold maxLen at hr3
  clear hown3 hs3
  go_wp2_with fail
  go_loopw [3, 17] (fun o c wr => ∃ i : Nat, i ≤ L.length ∧ c = .int .i64 i ∧ o = .int .i64 (bal (L.take i)) ∧ w3 = wr) (fun _ c _ => L.length - (intOf c).toNat)
  case atStart => exact ⟨0, Nat.zero_le _, rfl, rfl, rfl⟩
  case round =>
    obtain ⟨i, hin, rfl, rfl, rfl⟩ := hrel
    have hab := bal_abs (L.take i)
    rw [List.length_take] at hab
    by_cases hlt : i < L.length
    · obtain ⟨x, hx⟩ : ∃ x, L[i]? = some x := ⟨L[i], by simp⟩
      have s0 := HO3.out i x hx
      have hsn := bal_snoc L i x hx
      clear hx
      have hxe : x.toList.isEmpty = decide (x = ⟨#[]⟩) := by
        by_cases e : x = ⟨#[]⟩
        · subst e; simp
        · rw [decide_eq_false e]
          cases h2 : x.toList.isEmpty
          · rfl
          · exact absurd (ba_of (List.isEmpty_iff.1 h2)) e
      have hnx : (i + 1 < L.length → 0 < bal (L.take (i + 1))) ∧ (i + 1 = L.length → bal (L.take (i + 1)) = 0) :=
        ⟨fun h => HP.out.2.1 (i + 1) (by omega) h, fun h => by rw [h, List.take_length]; exact HP.out.1⟩
      rw [hsn] at hnx
      have HSN := hide hsn
      clear hsn
      generalize bal (L.take i) = o at hab HSN hnx ⊢
      by_cases hx0 : x = ⟨#[]⟩
      · rw [if_pos hx0] at HSN hnx
        rw [decide_eq_true hx0] at hxe
        by_cases hlast : i + 1 = L.length
        · have ho : o = 1 := by have := hnx.2 hlast; omega
          have hq : ((i : Int) != (L.length : Int) - 1) = false := by simp; omega
          subst ho
          clear hnx hx0
          go_wp2_with fail
          go_roundw
          case rel => exact ⟨i + 1, hlt, by go_num, by rw [HSN.out]; rfl, trivial⟩
          case measure => simp [intOf]; omega
        · have ho : 0 < o - 1 := by have := hnx.1 (by omega); omega
          have ho2 : ¬ o - 1 = 0 := by omega
          clear hnx hx0
          go_wp2_with fail
          go_roundw
          case rel => exact ⟨i + 1, hlt, by go_num, by rw [HSN.out]; rfl, trivial⟩
          case measure => simp [intOf]; omega
      · rw [if_neg hx0] at HSN hnx
        rw [decide_eq_false hx0] at hxe
        by_cases hlast : i + 1 = L.length
        · have ho : o = -1 := by have := hnx.2 hlast; omega
          have hq : ((i : Int) != (L.length : Int) - 1) = false := by simp; omega
          subst ho
          clear hnx hx0
          go_wp2_with fail
          go_roundw
          case rel => exact ⟨i + 1, hlt, by go_num, by rw [HSN.out]; rfl, trivial⟩
          case measure => simp [intOf]; omega
        · have ho : 0 < o + 1 := hnx.1 (by omega)
          have ho2 : ¬ o + 1 = 0 := by omega
          clear hnx hx0
          go_wp2_with fail
          go_roundw
          case rel => exact ⟨i + 1, hlt, by go_num, by rw [HSN.out], trivial⟩
          case measure => simp [intOf]; omega
    · have hie : i = L.length := by omega
      subst hie
      rw [List.take_length, HP.out.1]
      have HI3 := hide (HI.out w3 hw3)
      go_wp2_with fail
      with_reducible refine Calls.mono HI3.out ?_
      rintro e w4 ⟨a4, k4, rfl, hown4, hT4⟩
      have hw4 := hw3.trans hT4
      have hl2 := HP.out.2.2
      rw [hyl]
      generalize L.length = q at *
      subst hl2
      clear hown4 hyl
      go_wp2_with fail
      go_ret
      exact ⟨by simp, hw4⟩
end Go.Proofs.YtkkgfgllfbahlaaGreatFmt

namespace Go.Proofs.YtkkgfgllfbahlaaGreatFmt
open Go Go.RowKit Go.Proofs.YtkkgfgllfbahlaaGreatFmt
open Go.ChangeShapes Go.WideShapes Go.ChangeAt

theorem trodAll1 {H : Type} {enc : TypeId × Value → H} {w : World} {base : Nat} {sp : Nat → Bool} {held : Bool} {t : TypeId} {vs : List Value} {ds : List (DataW H)} {ps : List MemPlace} (h : DataW.TrodAll enc Tryz.prog w base sp held [t] vs ds ps) :
    ∃ v d p, vs = [v] ∧ ds = [d] ∧ DataW.Trod enc Tryz.prog w base sp held t v d p := by
  match vs, ds, h with
  | [v], [d], ⟨p, q, h1, h2, e⟩ => exact ⟨v, d, p, rfl, rfl, h1⟩
  | [], _, h => cases h
  | [_], [], h => cases h
  | _ :: _ :: _, _ :: _, ⟨_, _, _, h, _⟩ => cases h
  | [_], _ :: _ :: _, ⟨_, _, _, h, _⟩ => cases h
  | _ :: _ :: _, [], h => cases h
set_option maxRecDepth 100000 in
theorem pair_lifted (os : Os) (started : os.Started) (H : Type) (enc : TypeId × Value → H) :
    ReturnsInTold Rows.fnEventsPairRow.shortTexts Rows.fnEventsPairRow.assume Tryz.pinned.checked os 5 .any Input.okWide ((OpenSpec.ofChange Rows.fnEventsPairSpec).preRow enc Tryz.prog Tryz.f5 Rows.fnEventsPairRow.domain Rows.fnEventsPairRow.apart Rows.fnEventsPairRow.laid)
      (fun F => ((OpenSpec.ofChange Rows.fnEventsPairSpec).at F).post enc Tryz.prog Tryz.f5 Rows.fnEventsPairRow.apart Rows.fnEventsPairRow.fresh Rows.fnEventsPairRow.handsOn Rows.fnEventsPairRow.again) (aloneAtReturn Tryz.prog) nothingAlways := by
  refine returnsInTold_of_row (C := Tryz.checked) (s := OpenSpec.ofChange Rows.fnEventsPairSpec) (by kernel_rfl) own started (by kernel_rfl) Tryz.func5
    (OpenSpec.witness_stopped_at (enc := enc) (C := Tryz.checked) false (World.doorLaid Tryz.prog 400 os) #[.agg #[.string ⟨#[]⟩, .string ⟨#[]⟩, .slice none 0 0]] rfl (by kernel_rfl) (by kernel_rfl) (by kernel_rfl)
      (OpenSpec.preRow_of_B rfl 8 (by kernel_rfl) (by kernel_rfl) (door_met os _))) ?_
  intro F W base args ds gs before _ hF hval0 hW _ _ _ hL _
  have hval : ∀ (j : Nat) t v, Tryz.f5.params[j]? = some t → args[j]? = some v → Value.okWide Tryz.prog W .any base t v := hval0
  have hW' := hW
  have htok := tok_of_laid hL
  obtain ⟨p, q, hA0, hV, -, -, -⟩ := hW
  have hA : DataW.TrodAll enc Tryz.prog W 0 (fun _ => true) true Tryz.f5.params.toList args.toList ds p := hA0
  rw [Tryz.params5] at hA hval
  obtain ⟨v0, d0, p0, hvs, rfl, h0⟩ := trodAll1 hA
  obtain rfl : args = #[v0] := by
    obtain ⟨l⟩ := args
    simp only at hvs
    rw [hvs]
  obtain ⟨g, t, cs, fuel, dv, pv, hgs, -⟩ := trodVars_one hV
  subst hgs
  obtain ⟨cv, rfl, hsz⟩ := okWide_struct Tryz.underlying24 (hval 0 24 v0 rfl rfl)
  obtain ⟨k0, h0⟩ := h0
  obtain ⟨n, kv, hcs, hn⟩ := nd_of_trod k0 _ _ h0
  obtain rfl : cv = #[.string n.kind, .string n.text, kv] := by
    obtain ⟨l⟩ := cv
    have h : l = [.string n.kind, .string n.text, kv] := by simpa [Value.cells] using hcs
    rw [h]
  have hpos : 0 < W.heap.size := World.block_lt_of_cell? W ⟨0, 0, none⟩ (htok 0 (by decide))
  refine (law_pair n kv W hn htok hpos).mono fun e W' ⟨he, hb⟩ => ?_
  subst he
  exact ⟨_, rfl, post_true (s := Rows.fnEventsPairSpec) hb hW' rfl (of_decide_eq_true (by kernel_rfl)) rfl rfl⟩

set_option maxRecDepth 100000 in
theorem fnEventsPair_holds : Rows.FnEventsPairToldSaid :=
  Claim7.holds_of_told_tied_any_at .later 5 Tryz.f5 "fmt.Sprintf, its operands' methods called" [] [] _ _ _ _ _ (by kernel_rfl) rfl rfl rfl laidOut (by kernel_rfl) rfl ⟨rfl, rfl, rfl, rfl, rfl, rfl, rfl⟩ rfl rfl (by kernel_rfl) (by kernel_rfl) Tryz.func5 (by kernel_rfl)
    (of_decide_eq_true (by kernel_rfl)) (of_decide_eq_true (by kernel_rfl)) (by kernel_rfl) rfl stopKnobs.symm (by kernel_rfl)
    (by kernel_rfl) (by kernel_rfl) (by kernel_rfl) (by kernel_rfl) (by kernel_rfl) (by kernel_rfl) (by kernel_rfl) (by kernel_rfl) (by kernel_rfl) rfl (by kernel_rfl) rfl rfl
    rfl rfl
    rfl (by kernel_rfl) (by kernel_rfl) (by kernel_rfl) (by decide) (by kernel_rfl) fnEventsPair_row_tie
    (OpenClaim.moreEntering_of (by kernel_rfl) (by kernel_rfl) (by kernel_rfl) (by kernel_rfl) (by kernel_rfl) (by kernel_rfl) (by kernel_rfl) (by kernel_rfl) (by kernel_rfl) (by kernel_rfl))
    ⟨_, WideRow.started_initial, quietS _⟩
    (fun os started _ H enc _ => pair_lifted os started H enc)
#print axioms fnEventsPair_holds
end Go.Proofs.YtkkgfgllfbahlaaGreatFmt
