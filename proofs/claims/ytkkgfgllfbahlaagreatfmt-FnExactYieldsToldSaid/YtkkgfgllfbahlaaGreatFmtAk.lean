/- spec.AllKinds, spec.Least.
The law on Yields answers true.
FnExactYields: for every tree and text, its law answers true and leaves what came in as it was: told and tied, by the seat's own card. -/
import Derived.Test.YtkkgfgllfbahlaaGreatFmtSe
import Derived.Test.YtkkgfgllfbahlaaGreatFmtRi
import Derived.Test.YtkkgfgllfbahlaaGreatFmtShU
import Derived.Test.YtkkgfgllfbahlaaGreatFmtCards
import Derived.Test.YtkkgfgllfbahlaaGreatFmtTie
import Derived.Test.YtkkgfgllfbahlaaGreatFmtDt
set_option linter.unusedVariables false
set_option linter.unusedSimpArgs false
namespace Go.Proofs.YtkkgfgllfbahlaaGreatFmt
open Go Go.RowKit
set_option linter.unusedSimpArgs false

theorem preX_pos (x : XT) : 0 < (preX x).length := by
  cases x; rw [preX]; simp
/-- What has been gathered ahead of the i-th part. -/
def kiP (n : Nd) (i : Nat) : List ByteArray := n.kind :: preXs (((belowN n).take i).map xtN)
theorem kiP_snoc (n : Nd) (i : Nat) (x : Nd) (hx : (belowN n)[i]? = some x) : kiP n (i + 1) = kiP n i ++ preX (xtN x) := by
  obtain ⟨hi, he⟩ := List.getElem?_eq_some_iff.1 hx
  unfold kiP
  rw [List.take_succ_eq_append_getElem hi, he, List.map_append, preXs_append]
  simp [preXs]
theorem kiP_len (n : Nd) (i : Nat) : (kiP n i).length ≤ (xtN n).size := by
  have h1 := preXs_len (((belowN n).take i).map xtN)
  have h2 := sizeXs_append (((belowN n).take i).map xtN) (((belowN n).drop i).map xtN)
  rw [← List.map_append, List.take_append_drop] at h2
  rw [xtN_below n, XT.size]
  simp only [kiP, List.length_cons]
  omega
theorem preX_go (n : Nd) : preX (xtN n) = kiP n (belowN n).length := by
  rw [xtN_below n, preX, kiP, List.take_length]

set_option maxRecDepth 100000 in
set_option maxHeartbeats 8000000 in
theorem kinds_spec : ∀ (m : Nat) (n : Nd), (xtN n).size ≤ m → lnN n = true → n.nodes ≤ 400 → ∀ (kv : Value) (w : World), NdK w.heap.size w n kv →
    Calls Tryz.prog 18 #[nodeV n kv] w (StrPost (preX (xtN n)) w) := by
  intro m
  induction m with
  | zero => intro n hm; have := preX_len (xtN n); have := preX_pos (xtN n); omega
  | succ m ih =>
    intro n hm hl h400 kv w hn
    have IH := hide ih
    clear ih
    obtain ⟨i0, hi, hz0, hz1, hz2⟩ := info_parts info_str
    obtain ⟨a, cap, hv, hcap, hmx⟩ := hn.slice
    subst hv
    have hsz := (xt_size n).1
    have HBE := hide (fun W (hb : Bel w W) => below_any n hl h400 (.slice a n.kids.length cap) W w.heap.size hb.le (hn.stay (Nat.le_refl _) (hb.same (Nat.le_refl _))))
    have HLN := hide hl
    clear hn hl
    have hb0 : Bel w ((w.alloc (.cells #[.string n.kind, .string n.text, .slice a n.kids.length cap] 24)).alloc (.cells #[.string n.kind] 9)) := (by repeat (first | exact Bel.refl _ | assumption | refine Bel.alloc ?_ _ | refine Bel.drew ?_ | refine Bel.set ?_ (by first | exact Nat.le_refl _ | (simp; done) | (simp; omega)) _))
    have hown0 : ((w.alloc (.cells #[.string n.kind, .string n.text, .slice a n.kids.length cap] 24)).alloc (.cells #[.string n.kind] 9)).ownsRow w.heap.size 9 1 (.slice (some ⟨w.heap.size + 1, 0, none⟩) 1 1) 1 [.string n.kind] :=
      ⟨rfl, .inr ⟨w.heap.size + 1, 1, _, rfl, by omega, by simpa using heap_alloc_new (w.alloc (.cells #[.string n.kind, .string n.text, .slice a n.kids.length cap] 24)) (.cells #[.string n.kind] 9), Nat.le_refl _, by decide, rfl, rfl⟩⟩
    have HO0 := hide hown0
    have HB0 := hide hb0
    clear hown0 hb0
    unfold nodeV at HBE ⊢
    go_enter Tryz.func18, Tryz.ntmps18
    go_wp2_with fail
    with_reducible refine Calls.mono (HBE.out _ HB0.out) ?_
    rintro e w1 ⟨sv, vs1, rfl, hown1b, hnd1, hT1⟩
    have hw1 : Bel w w1 := HB0.out.trans hT1
    have z1 := hT1.le
    simp only [World.size_alloc] at z1 hown1b
    have hown1 := ownsRow_bel HO0.out hT1
    rcases Nat.eq_zero_or_pos (belowN n).length with hz | hz
    · have hsv : sv = .slice none 0 0 ∨ ∃ g c, sv = .slice (some ⟨g, 0, none⟩) 0 c := by
        rcases hown1b.2 with ⟨h, -⟩ | ⟨g, c, cur, h, -⟩
        · exact .inl h
        · rw [hz] at h; exact .inr ⟨g, c, h⟩
      have hPz : preX (xtN n) = [n.kind] := by rw [preX_go, hz]; simp [kiP, preXs]
      have hownP : w1.ownsRow w.heap.size 9 1 (.slice (some ⟨w.heap.size + 1, 0, none⟩) 1 1) (preX (xtN n)).length (strs (preX (xtN n))) := by rw [hPz]; simpa [strs] using hown1
      have hL1 : (preX (xtN n)).length = 1 := by rw [hPz]; rfl
      have HOP := hide hownP
      clear hownP hown1 hown1b hnd1
      rcases hsv with rfl | ⟨g, c, rfl⟩
      all_goals go_wp2_with fail
      all_goals refine wp_loop_rounds 1 ?_
      all_goals rw [rounds_succ]
      all_goals go_wp2_with fail
      all_goals go_ret
      all_goals exact ⟨some ⟨w.heap.size + 1, 0, none⟩, 1, by rw [hL1]; rfl, by have h := HOP.out; rw [hL1] at h ⊢; exact h, hw1⟩
    · obtain ⟨g1, cap1, rfl, hg1, hg2, hcp1, hcp2, hget⟩ := own_get hown1b hnd1 hz
      have HR := hide hget
      have HO1 := hide hown1
      have hbl := below_len n
      unfold maxLen at hcp2
      clear hget hown1 hown1b hnd1
      go_wp2_with fail
      go_loopw [3, 12] (fun v c wr => ∃ i : Nat, i ≤ (belowN n).length ∧ c = .int .i64 i ∧ wr.ownsRow w.heap.size 9 1 v (kiP n i).length (strs (kiP n i)) ∧ Bel w wr ∧ But (w.heap.size + 1) w1 wr ∧ (∀ k, v.ownBlock = some k → k = w.heap.size + 1 ∨ w1.heap.size ≤ k)) (fun _ c _ => (belowN n).length - (intOf c).toNat)
      case atStart => exact ⟨0, Nat.zero_le _, rfl, by simpa [kiP, preXs, strs] using HO1.out, hw1, But.refl _ _, fun k hk => .inl (by simpa [Value.ownBlock] using hk.symm)⟩
      case round =>
        obtain ⟨i, hin, rfl, hown, hbr, hbu, hob⟩ := hrel
        obtain ⟨va, vc, rfl⟩ := own_slice hown
        have hpl := kiP_len n i
        have zr := hbu.le
        by_cases hlt : i < (belowN n).length
        · obtain ⟨x, hx⟩ : ∃ x, (belowN n)[i]? = some x := ⟨(belowN n)[i], by simp⟩
          obtain ⟨xv, c0, c1, c2, hkn⟩ := HR.out i x hx
          obtain ⟨xa, xcap, hxv, -, -⟩ := hkn.slice
          subst hxv
          have s0 := (hbu.at (b := g1) hg2 (by omega) (0 + 3 * i)).trans c0
          have s1 := (hbu.at (b := g1) hg2 (by omega) (0 + 3 * i + 1)).trans c1
          have s2 := (hbu.at (b := g1) hg2 (by omega) (0 + 3 * i + 2)).trans c2
          rw [Nat.zero_add, Nat.mul_comm] at s0 s1 s2
          have hxm := List.mem_of_getElem? hx
          have hxs := below_size hxm
          have hxn := below_nodes hxm
          have hsn := kiP_snoc n i x hx
          have hpl2 := kiP_len n (i + 1)
          rw [hsn, List.length_append] at hpl2
          have HSN := hide hsn
          have HX := hide (fun W (hb : Bel w W) => IH.out x (by omega) (lnN_below HLN.out x hxm) (by omega) (.slice xa x.kids.length xcap) W (hkn.stay hb.le (fun k hk => (hb.block k hk).trans (HB0.out.block k hk).symm)))
          have HO := hide hown
          have HOB := hide hob
          clear hown c0 c1 c2 hkn hx hsn hxm hob
          unfold nodeV at HX
          go_wp2_with fail
          with_reducible refine Calls.mono (HX.out _ ?_) ?_
          · exact (by repeat (first | exact Bel.refl _ | assumption | refine Bel.alloc ?_ _ | refine Bel.drew ?_ | refine Bel.set ?_ (by first | exact Nat.le_refl _ | (simp; done) | (simp; omega)) _))
          rintro e w2 ⟨ra, rc, rfl, hown2, hT2⟩
          have hw2 : Bel w w2 := Bel.trans (by repeat (first | exact Bel.refl _ | assumption | refine Bel.alloc ?_ _ | refine Bel.drew ?_ | refine Bel.set ?_ (by first | exact Nat.le_refl _ | (simp; done) | (simp; omega)) _)) hT2
          have hbX : Bel wr w2 := Bel.trans (Bel.alloc (Bel.refl _) _) hT2
          have zx := hbX.le
          obtain ⟨g2, cap2, hv2, hl2, hnews2⟩ := row_news hown2 (preX_pos (xtN x))
          have hpos := preX_pos (xtN x)
          injection hv2 with f1 f2 f3
          subst f1 f3
          have HN := hide (show _ ∧ _ from ⟨hl2, hnews2⟩)
          have q1 : (kiP n i).length + (preX (xtN x)).length ≤ maxLen := by unfold maxLen; omega
          have q2 : ((kiP n i).length + (preX (xtN x)).length) * 16 ≤ 140737488355328 := by omega
          have q3 : w.heap.size ≤ w2.heap.size := by have := hw2.le; omega
          have hownB := ownsRow_bel HO.out hbX
          have HOB2 := hide hownB
          clear hown2 hl2 hnews2 hownB
          go_wp2_with (first
            | (at_builtin
               refine wpList_append_lies _ rfl _ _ 34 rfl w.heap.size 9 i0 _ 1 16 under_strs hi hz0 hz1 hz2 rfl (by decide) (.slice va (kiP n i).length vc) (kiP n i).length (strs (kiP n i)) rfl HOB2.out ⟨g2, 0, none⟩ (preX (xtN x)).length rc (strs (preX (xtN x))) rfl HN.out.1 HN.out.2 (strs_one _) hpos q1 q2 q3 _ rfl ?_
               intro g4 cap4 w4 hown4 hgrow4 hat4 hlt4
               have hb4 : Bel w w4 := hw2.row hgrow4 (fun g hg => (HO.out.lt g hg).1)
               have hu4 : But (w.heap.size + 1) w1 w4 := (hbu.trans (But.of_bel hbX)).grow2 hgrow4 HOB.out))
          have HG := hide (show _ ∧ _ from ⟨hown4, hat4⟩)
          clear hown4 hgrow4 hat4
          go_wp2_with fail
          go_roundw
          case rel =>
            obtain ⟨hown4, hat4⟩ := HG.out
            refine ⟨i + 1, hlt, by go_num, ?_, hb4, hu4, fun k hk => ?_⟩
            · rw [HSN.out, List.length_append, strs_append]
              exact hown4
            · have hk : g4 = k := by simpa [Value.ownBlock] using hk
              subst hk
              rcases hat4 with h | h
              · exact HOB.out g4 h
              · exact .inr (by omega)
          case measure => simp [intOf]; omega
        · have hie : i = (belowN n).length := by omega
          subst hie
          have HO9 := hide hown
          clear hown
          generalize hP : (kiP n (belowN n).length).length = Lp at HO9 ⊢
          go_wp2_with fail
          go_ret
          have e : (preX (xtN n)).length = Lp := by rw [preX_go, hP]
          refine ⟨va, vc, by rw [e]; rfl, ?_, hbr⟩
          rw [e, preX_go]
          exact HO9.out

theorem least_spec (m k : Nat) (most : Int) (hm : m = max 1 most.toNat) (hk : 0 < k) (h4 : k ≤ 4000) (w : World) : Calls Tryz.prog 19 #[.int .i64 most, .int .i64 k] w fun e w' => e = .returned (.int .i64 ((min m k : Nat) : Int)) ∧ w = w' := by
  go_enter Tryz.func19, Tryz.ntmps19
  go_wp2_with fail
  all_goals go_ret
  all_goals (
    rename_i h1
    refine ⟨?_, rfl⟩
    refine congrArg (fun z => Ending.returned (Value.int .i64 z)) ?_
    subst hm
    split at h1 <;> omega)
end Go.Proofs.YtkkgfgllfbahlaaGreatFmt

namespace Go.Proofs.YtkkgfgllfbahlaaGreatFmt
open Go Go.RowKit
set_option linter.unusedSimpArgs false

theorem StrAt.take {w : World} {L : List ByteArray} {b : Nat} (h : StrAt w L b) (m : Nat) : StrAt w (L.take m) b := fun i x hx => h i x (by rw [List.getElem?_take] at hx; split at hx <;> first | exact hx | simp at hx)
set_option maxRecDepth 100000 in
set_option maxHeartbeats 4000000 in
theorem law_yields (n : Nd) (most : Int) (kv : Value) (w : World) (hn : NdK w.heap.size w n kv) (htok : TokTab w) (h0 : 0 < w.heap.size) :
    Calls Tryz.prog 6 #[nodeV n kv, .int .i64 most] w fun e w' => e = .returned (.bool true) ∧ Bel w w' := by
  obtain ⟨a, cap, hv, hcap, hmx⟩ := hn.slice
  subst hv
  have hb : Bel w (w.alloc (.cells #[.string n.kind, .string n.text, .slice a n.kids.length cap] 24)) := (by repeat (first | exact Bel.refl _ | assumption | refine Bel.alloc ?_ _ | refine Bel.drew ?_ | refine Bel.set ?_ (by first | exact Nat.le_refl _ | (simp; done) | (simp; omega)) _))
  obtain ⟨fb, hfb⟩ := fits_tells n (.slice a n.kids.length cap) (w.alloc (.cells #[.string n.kind, .string n.text, .slice a n.kids.length cap] 24)) (hn.later hb)
  have HF := hide hfb
  have HS := hide (fun (W : World) (hW : Bel w W) => shaped_tells n (.slice a n.kids.length cap) W (hn.later hW))
  have HTK := hide htok
  have HN := hide hn
  clear hn hfb htok
  unfold Tells nodeV at HF HS
  unfold nodeV
  go_enter Tryz.func6, Tryz.ntmps6
  go_wp2_with fail
  refine HF.out.mono ?_
  rintro e w1 ⟨rfl, hT1⟩
  have hw1 : Bel w w1 := hb.trans hT1
  have c1 := hT1.at (b := w.heap.size) (by simp)
  have l1 : w.heap.size < w1.heap.size := by have := hT1.le; simp at this; omega
  cases fb
  · go_wp2_with fail
    go_ret
    exact ⟨rfl, hw1⟩
  go_wp2_with fail
  refine (HS.out w1 hw1).mono ?_
  rintro e w2 ⟨rfl, hT2⟩
  have hw2 : Bel w w2 := hw1.trans hT2
  have c2 := hT2.at (b := w.heap.size) l1
  have l2 : w.heap.size < w2.heap.size := by have := hT2.le; omega
  cases hsh : shaped n
  · go_wp2_with fail
    go_ret
    exact ⟨rfl, hw2⟩
  have hsS : shS n = true := by simp [shaped] at hsh; exact hsh.2
  have hs400 : n.nodes ≤ 400 := few_nodes (by simp [shaped] at hsh; exact hsh.1)
  have hsz := (xt_size n).1
  have hlp : (preX (xtN n)).length ≤ 4000 := by have := preX_len (xtN n); omega
  have hpp := preX_pos (xtN n)
  have HI := hide (fun (W : World) (hW : Bel w W) => yields_impl n hsS hs400 most (.slice a n.kids.length cap) W (HN.out.later hW) (HTK.out.bel h0 hW) (Nat.lt_of_lt_of_le h0 hW.le))
  have HV := hide (fun (W : World) (hW : Bel w W) => kinds_spec (xtN n).size n (Nat.le_refl _) (ln_S' hsS) hs400 (.slice a n.kids.length cap) W (HN.out.later hW))
  unfold nodeV at HI HV
  generalize hL : preX (xtN n) = L at HI HV hlp hpp
  generalize hM : max 1 most.toNat = M at HI
  have hM1 : 1 ≤ M := by omega
  go_wp2_with fail
  with_reducible refine Calls.mono (HV.out _ hw2) ?_
  rintro e w3 ⟨a3, k3, rfl, hown3, hT3⟩
  have hw3 : Bel w w3 := hw2.trans hT3
  have c3 := hT3.at (b := w.heap.size) l2
  have l3 : w.heap.size < w3.heap.size := by have := hT3.le; omega
  obtain ⟨g3, q3, hv3, -, hl3, hp3, hr3, hs3⟩ := own_str hown3 hpp
  injection hv3 with f1 f2 f3
  subst f1 f3
  have HO3 := hide hs3
  clear hown3 hs3
  go_wp2_with fail
  with_reducible refine Calls.mono (HI.out _ hw3) ?_
  rintro e w4 ⟨a4, k4, rfl, hown4, hT4⟩
  have hlt : (L.take M).length = min M L.length := List.length_take
  have hlt0 : 0 < (L.take M).length := by omega
  have hw4 : Bel w w4 := hw3.trans hT4
  obtain ⟨g4, q4, hv4, -, hl4, hp4, hr4, hs4⟩ := own_str hown4 hlt0
  injection hv4 with f1 f2 f3
  subst f1 f3
  have HO4 := hide hs4
  clear hown4 hs4
  unfold maxLen at hr3 hr4
  have HLE := hide (fun W => least_spec M L.length most hM.symm hpp (by omega) W)
  have hmn : min M L.length ≤ L.length := Nat.min_le_right _ _
  generalize hK : min M L.length = K at HLE hmn hlt
  rw [hlt] at hp4 hlt0 ⊢
  go_wp2_with fail
  with_reducible refine Calls.mono (HLE.out _) ?_
  rintro e w5 ⟨rfl, rfl⟩
  have HE0 := equal_str (L.take M) (by omega) g4 k4 g3 k3 w4 HO4.out ((HO3.out.take M).bel hl3 hT4) (by omega) (by omega) hr4 hr3
  rw [hlt] at HE0
  have HE := hide HE0
  clear HE0
  go_wp2_with fail
  with_reducible refine Calls.mono HE.out ?_
  rintro e w6 ⟨rfl, hT6⟩
  go_wp2_with fail
  go_ret
  exact ⟨rfl, hw4.trans hT6⟩
end Go.Proofs.YtkkgfgllfbahlaaGreatFmt

namespace Go.Proofs.YtkkgfgllfbahlaaGreatFmt
open Go Go.RowKit Go.Proofs.YtkkgfgllfbahlaaGreatFmt
open Go.ChangeShapes Go.WideShapes Go.ChangeAt

set_option maxRecDepth 100000 in
theorem yields_lifted (os : Os) (started : os.Started) (H : Type) (enc : TypeId × Value → H) :
    ReturnsInTold Rows.fnExactYieldsRow.shortTexts Rows.fnExactYieldsRow.assume Tryz.pinned.checked os 6 .any Input.okWide ((OpenSpec.ofChange Rows.fnExactYieldsSpec).preRow enc Tryz.prog Tryz.f6 Rows.fnExactYieldsRow.domain Rows.fnExactYieldsRow.apart Rows.fnExactYieldsRow.laid)
      (fun F => ((OpenSpec.ofChange Rows.fnExactYieldsSpec).at F).post enc Tryz.prog Tryz.f6 Rows.fnExactYieldsRow.apart Rows.fnExactYieldsRow.fresh Rows.fnExactYieldsRow.handsOn Rows.fnExactYieldsRow.again) (aloneAtReturn Tryz.prog) nothingAlways := by
  refine returnsInTold_of_row (C := Tryz.checked) (s := OpenSpec.ofChange Rows.fnExactYieldsSpec) (by kernel_rfl) own started (by kernel_rfl) Tryz.func6
    (OpenSpec.witness_stopped_at (enc := enc) (C := Tryz.checked) false (World.doorLaid Tryz.prog 400 os) #[.agg #[.string ⟨#[]⟩, .string ⟨#[]⟩, .slice none 0 0], .int .i64 0] rfl (by kernel_rfl) (by kernel_rfl) (by kernel_rfl)
      (OpenSpec.preRow_of_B rfl 8 (by kernel_rfl) (by kernel_rfl) (door_met os _))) ?_
  intro F W base args ds gs before _ hF hval0 hW _ _ _ hL _
  have hval : ∀ (j : Nat) t v, Tryz.f6.params[j]? = some t → args[j]? = some v → Value.okWide Tryz.prog W .any base t v := hval0
  have hW' := hW
  have htok := tok_of_laid hL
  obtain ⟨p, q, hA0, hV, -, -, -⟩ := hW
  have hA : DataW.TrodAll enc Tryz.prog W 0 (fun _ => true) true Tryz.f6.params.toList args.toList ds p := hA0
  rw [Tryz.params6] at hA hval
  obtain ⟨v0, v1, d0, d1, p0, p1, hvs, rfl, h0, h1⟩ := trodAll2 hA
  obtain rfl : args = #[v0, v1] := by
    obtain ⟨l⟩ := args
    simp only at hvs
    rw [hvs]
  obtain ⟨g, t, cs, fuel, dv, pv, hgs, -⟩ := trodVars_one hV
  subst hgs
  obtain ⟨most, rfl⟩ := okWide_int Tryz.underlying3 (hval 1 3 v1 rfl rfl)
  obtain ⟨cv, rfl, hsz⟩ := okWide_struct Tryz.underlying24 (hval 0 24 v0 rfl rfl)
  obtain ⟨k0, h0⟩ := h0
  obtain ⟨n, kv, hcs, hn⟩ := nd_of_trod k0 _ _ h0
  obtain rfl : cv = #[.string n.kind, .string n.text, kv] := by
    obtain ⟨l⟩ := cv
    have h : l = [.string n.kind, .string n.text, kv] := by simpa [Value.cells] using hcs
    rw [h]
  have hpos : 0 < W.heap.size := World.block_lt_of_cell? W ⟨0, 0, none⟩ (htok 0 (by decide))
  refine (law_yields n most kv W hn htok hpos).mono fun e W' ⟨he, hb⟩ => ?_
  subst he
  exact ⟨_, rfl, post_true (s := Rows.fnExactYieldsSpec) hb hW' rfl (of_decide_eq_true (by kernel_rfl)) rfl rfl⟩

set_option maxRecDepth 100000 in
theorem fnExactYields_holds : Rows.FnExactYieldsToldSaid :=
  Claim7.holds_of_told_tied_any_at .later 6 Tryz.f6 "fmt.Sprintf, its operands' methods called" [] [] _ _ _ _ _ (by kernel_rfl) rfl rfl rfl laidOut (by kernel_rfl) rfl ⟨rfl, rfl, rfl, rfl, rfl, rfl, rfl⟩ rfl rfl (by kernel_rfl) (by kernel_rfl) Tryz.func6 (by kernel_rfl)
    (of_decide_eq_true (by kernel_rfl)) (of_decide_eq_true (by kernel_rfl)) (by kernel_rfl) rfl stopKnobs.symm (by kernel_rfl)
    (by kernel_rfl) (by kernel_rfl) (by kernel_rfl) (by kernel_rfl) (by kernel_rfl) (by kernel_rfl) (by kernel_rfl) (by kernel_rfl) (by kernel_rfl) rfl (by kernel_rfl) rfl rfl
    rfl rfl
    rfl (by kernel_rfl) (by kernel_rfl) (by kernel_rfl) (by decide) (by kernel_rfl) fnExactYields_row_tie
    (OpenClaim.moreEntering_of (by kernel_rfl) (by kernel_rfl) (by kernel_rfl) (by kernel_rfl) (by kernel_rfl) (by kernel_rfl) (by kernel_rfl) (by kernel_rfl) (by kernel_rfl) (by kernel_rfl))
    ⟨_, WideRow.started_initial, quietS _⟩
    (fun os started _ H enc _ => yields_lifted os started H enc)
#print axioms fnExactYields_holds
end Go.Proofs.YtkkgfgllfbahlaaGreatFmt
