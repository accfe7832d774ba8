/- spec.Events.
slices.Equal over texts: two rows of the same texts are equal.
The law on Events answers true. -/
import Derived.Test.YtkkgfgllfbahlaaGreatFmtSv
import Derived.Test.YtkkgfgllfbahlaaGreatFmtIn
import Derived.BigQuiet
import Derived.Laws.StructEq
import Derived.Deep.QuietTactic
import Derived.Test.YtkkgfgllfbahlaaGreatFmtShU
import Derived.Deep.RegionHeld3
set_option linter.unusedVariables false
set_option linter.unusedSimpArgs false
namespace Go.Proofs.YtkkgfgllfbahlaaGreatFmt
open Go Go.RowKit
set_option linter.unusedSimpArgs false

theorem evXs_append (stop : ByteArray) : ∀ a b : List XT, evXs stop (a ++ b) = evXs stop a ++ evXs stop b
  | [], b => by simp [evXs]
  | x :: r, b => by simp only [List.cons_append, evXs, evXs_append stop r b, List.append_assoc]
theorem evX_pos (stop : ByteArray) (x : XT) : 0 < (evX stop x).length := by
  cases x; rw [evX]; simp
theorem strs_append (a b : List ByteArray) : strs (a ++ b) = strs a ++ strs b := List.map_append
theorem strs_one (L : List ByteArray) : ∀ u ∈ strs L, u.oneCell' = true := by
  intro u hu
  rw [List.mem_map] at hu
  obtain ⟨x, -, rfl⟩ := hu
  rfl
/-- What has been gathered ahead of the i-th part. -/
def evP (stop : ByteArray) (n : Nd) (i : Nat) : List ByteArray := n.kind :: evXs stop (((belowN n).take i).map xtN)
theorem evP_snoc (stop : ByteArray) (n : Nd) (i : Nat) (x : Nd) (hx : (belowN n)[i]? = some x) : evP stop n (i + 1) = evP stop n i ++ evX stop (xtN x) := by
  obtain ⟨hi, he⟩ := List.getElem?_eq_some_iff.1 hx
  unfold evP
  rw [List.take_succ_eq_append_getElem hi, he, List.map_append, evXs_append]
  simp [evXs]
theorem evP_len (stop : ByteArray) (n : Nd) (i : Nat) : (evP stop n i).length + 1 ≤ 2 * (xtN n).size := by
  have h1 := evXs_len stop (((belowN n).take i).map xtN)
  have h2 := sizeXs_append (((belowN n).take i).map xtN) (((belowN n).drop i).map xtN)
  rw [← List.map_append, List.take_append_drop] at h2
  rw [xtN_below n, XT.size]
  simp only [evP, List.length_cons]
  omega
theorem evX_stop {stop : ByteArray} {n : Nd} (h : n.kind = stop) : evX stop (xtN n) = [n.kind] := by rw [xtN_below n, evX, if_pos h]
theorem evX_go {stop : ByteArray} {n : Nd} (h : ¬ n.kind = stop) : evX stop (xtN n) = evP stop n (belowN n).length ++ [⟨#[]⟩] := by
  rw [xtN_below n, evX, if_neg h, evP, List.take_length]
  rfl

set_option maxRecDepth 100000 in
set_option maxHeartbeats 8000000 in
theorem events_spec (stop : ByteArray) : ∀ (m : Nat) (n : Nd), (xtN n).size ≤ m → lnN n = true → n.nodes ≤ 400 → ∀ (kv : Value) (w : World), NdK w.heap.size w n kv →
    Calls Tryz.prog 16 #[nodeV n kv, .string stop] w (StrPost (evX stop (xtN n)) w) := by
  intro m
  induction m with
  | zero => intro n hm; have := evX_len stop (xtN n); have := evX_pos stop (xtN n); omega
  | succ m ih =>
    intro n hm hl h400 kv w hn
    have IH := hide ih
    clear ih
    obtain ⟨i0, hi, hz0, hz1, hz2⟩ := info_parts info_str
    obtain ⟨a, cap, hv, hcap, hmx⟩ := hn.slice
    subst hv
    have hsz := (xt_size n).1
    have HBE := hide (fun W (hb : Bel w W) => below_any n hl h400 (.slice a n.kids.length cap) W w.heap.size hb.le (hn.stay (Nat.le_refl _) (hb.same (Nat.le_refl _))))
    have HLN := hide hl
    clear hn hl
    have hb0 : Bel w ((w.alloc (.cells #[.string n.kind, .string n.text, .slice a n.kids.length cap] 24)).alloc (.cells #[.string n.kind] 9)) := (by repeat (first | exact Bel.refl _ | assumption | refine Bel.alloc ?_ _ | refine Bel.drew ?_ | refine Bel.set ?_ (by first | exact Nat.le_refl _ | (simp; done) | (simp; omega)) _))
    have hown0 : ((w.alloc (.cells #[.string n.kind, .string n.text, .slice a n.kids.length cap] 24)).alloc (.cells #[.string n.kind] 9)).ownsRow w.heap.size 9 1 (.slice (some ⟨w.heap.size + 1, 0, none⟩) 1 1) 1 [.string n.kind] :=
      ⟨rfl, .inr ⟨w.heap.size + 1, 1, _, rfl, by omega, by simpa using heap_alloc_new (w.alloc (.cells #[.string n.kind, .string n.text, .slice a n.kids.length cap] 24)) (.cells #[.string n.kind] 9), Nat.le_refl _, by decide, rfl, rfl⟩⟩
    have HO0 := hide hown0
    have HB0 := hide hb0
    clear hown0 hb0
    cases hks : (n.kind.toList == stop.toList)
    · have HNE := hide (beq_kind_ne hks)
      unfold nodeV at HBE ⊢
      go_enter Tryz.func16, Tryz.ntmps16
      go_wp2_with fail
      with_reducible refine Calls.mono (HBE.out _ HB0.out) ?_
      rintro e w1 ⟨sv, vs1, rfl, hown1b, hnd1, hT1⟩
      have hw1 : Bel w w1 := HB0.out.trans hT1
      have z1 := hT1.le
      simp only [World.size_alloc] at z1 hown1b
      have hown1 := ownsRow_bel HO0.out hT1
      rcases Nat.eq_zero_or_pos (belowN n).length with hz | hz
      · have hsv : sv = .slice none 0 0 ∨ ∃ g c, sv = .slice (some ⟨g, 0, none⟩) 0 c := by
          rcases hown1b.2 with ⟨h, -⟩ | ⟨g, c, cur, h, -⟩
          · exact .inl h
          · rw [hz] at h; exact .inr ⟨g, c, h⟩
        have hPz : evP stop n (belowN n).length = [n.kind] := by rw [hz]; simp [evP, evXs]
        have hownP : w1.ownsRow w.heap.size 9 1 (.slice (some ⟨w.heap.size + 1, 0, none⟩) 1 1) (evP stop n (belowN n).length).length (strs (evP stop n (belowN n).length)) := by rw [hPz]; simpa [strs] using hown1
        have hL1 : (evP stop n (belowN n).length).length = 1 := by rw [hPz]; rfl
        have HOP := hide hownP
        clear hownP hown1 hown1b hnd1
        rcases hsv with rfl | ⟨g, c, rfl⟩
        all_goals go_wp2_with fail
        all_goals refine wp_loop_rounds 1 ?_
        all_goals rw [rounds_succ]
        all_goals (
          have hlen9 := evP_len stop n (belowN n).length
          have hown9 : w1.ownsRow w.heap.size 9 1 (.slice (some ⟨w.heap.size + 1, 0, none⟩) 1 1) 1 (strs (evP stop n (belowN n).length)) := by have h := HOP.out; rw [hL1] at h; exact h
          have hP := hL1
          have HO9 := hide hown9
          have hbX9 : Bel w (w1.alloc (.cells #[.string ⟨#[]⟩] 9)) := hw1.alloc _
          clear hown9
          go_wp2_with (first
            | (at_builtin
               refine wpList_append_lies _ rfl _ _ 34 rfl w.heap.size 9 i0 _ 1 16 under_strs hi hz0 hz1 hz2 rfl (by decide) (.slice (some ⟨w.heap.size + 1, 0, none⟩) 1 1) 1 _ rfl (ownsRow_bel HO9.out (Bel.alloc (Bel.refl _) _)) ⟨w1.heap.size, 0, none⟩ 1 1 [.string ⟨#[]⟩] rfl rfl (World.news_of_block (heap_alloc_new w1 (.cells #[.string ⟨#[]⟩] 9))) (fun u hu => by simp at hu; rcases hu with rfl; rfl) (by decide) (by unfold maxLen; omega) (by omega) (by have := hw1.le; simp; omega) _ rfl ?_
               intro g5 cap5 w5 hown5 hgrow5 hat5 hlt5
               have hb5 : Bel w w5 := hbX9.row hgrow5 (fun g hg => (HO9.out.lt g hg).1)))
          have HG5 := hide hown5
          clear hown5 hgrow5 hat5
          go_wp2_with fail
          go_ret
          have e : (evX stop (xtN n)).length = 1 + 1 := by rw [evX_go HNE.out, List.length_append, hP]; rfl
          refine ⟨some ⟨g5, 0, none⟩, cap5, by rw [e]; rfl, ?_, hb5⟩
          rw [e, evX_go HNE.out, strs_append]
          exact HG5.out)
      · obtain ⟨g1, cap1, rfl, hg1, hg2, hcp1, hcp2, hget⟩ := own_get hown1b hnd1 hz
        have HR := hide hget
        have HO1 := hide hown1
        have hbl := below_len n
        unfold maxLen at hcp2
        clear hget hown1 hown1b hnd1
        go_wp2_with fail
        go_loopw [5, 19] (fun v c wr => ∃ i : Nat, i ≤ (belowN n).length ∧ c = .int .i64 i ∧ wr.ownsRow w.heap.size 9 1 v (evP stop n i).length (strs (evP stop n i)) ∧ Bel w wr ∧ But (w.heap.size + 1) w1 wr ∧ (∀ k, v.ownBlock = some k → k = w.heap.size + 1 ∨ w1.heap.size ≤ k)) (fun _ c _ => (belowN n).length - (intOf c).toNat)
        case atStart => exact ⟨0, Nat.zero_le _, rfl, by simpa [evP, evXs, strs] using HO1.out, hw1, But.refl _ _, fun k hk => .inl (by simpa [Value.ownBlock] using hk.symm)⟩
        case round =>
          obtain ⟨i, hin, rfl, hown, hbr, hbu, hob⟩ := hrel
          obtain ⟨va, vc, rfl⟩ := own_slice hown
          have hpl := evP_len stop n i
          have zr := hbu.le
          by_cases hlt : i < (belowN n).length
          · obtain ⟨x, hx⟩ : ∃ x, (belowN n)[i]? = some x := ⟨(belowN n)[i], by simp⟩
            obtain ⟨xv, c0, c1, c2, hkn⟩ := HR.out i x hx
            obtain ⟨xa, xcap, hxv, -, -⟩ := hkn.slice
            subst hxv
            have s0 := (hbu.at (b := g1) hg2 (by omega) (0 + 3 * i)).trans c0
            have s1 := (hbu.at (b := g1) hg2 (by omega) (0 + 3 * i + 1)).trans c1
            have s2 := (hbu.at (b := g1) hg2 (by omega) (0 + 3 * i + 2)).trans c2
            rw [Nat.zero_add, Nat.mul_comm] at s0 s1 s2
            have hxm := List.mem_of_getElem? hx
            have hxs := below_size hxm
            have hxn := below_nodes hxm
            have hsn := evP_snoc stop n i x hx
            have hpl2 := evP_len stop n (i + 1)
            rw [hsn, List.length_append] at hpl2
            have HSN := hide hsn
            have HX := hide (fun W (hb : Bel w W) => IH.out x (by omega) (lnN_below HLN.out x hxm) (by omega) (.slice xa x.kids.length xcap) W (hkn.stay hb.le (fun k hk => (hb.block k hk).trans (HB0.out.block k hk).symm)))
            have HO := hide hown
            have HOB := hide hob
            clear hown c0 c1 c2 hkn hx hsn hxm hob
            unfold nodeV at HX
            go_wp2_with fail
            with_reducible refine Calls.mono (HX.out _ ?_) ?_
            · exact (by repeat (first | exact Bel.refl _ | assumption | refine Bel.alloc ?_ _ | refine Bel.drew ?_ | refine Bel.set ?_ (by first | exact Nat.le_refl _ | (simp; done) | (simp; omega)) _))
            rintro e w2 ⟨ra, rc, rfl, hown2, hT2⟩
            have hw2 : Bel w w2 := Bel.trans (by repeat (first | exact Bel.refl _ | assumption | refine Bel.alloc ?_ _ | refine Bel.drew ?_ | refine Bel.set ?_ (by first | exact Nat.le_refl _ | (simp; done) | (simp; omega)) _)) hT2
            have hbX : Bel wr w2 := Bel.trans (Bel.alloc (Bel.refl _) _) hT2
            have zx := hbX.le
            obtain ⟨g2, cap2, hv2, hl2, hnews2⟩ := row_news hown2 (evX_pos stop (xtN x))
            have hpos := evX_pos stop (xtN x)
            injection hv2 with f1 f2 f3
            subst f1 f3
            have HN := hide (show _ ∧ _ from ⟨hl2, hnews2⟩)
            have q1 : (evP stop n i).length + (evX stop (xtN x)).length ≤ maxLen := by unfold maxLen; omega
            have q2 : ((evP stop n i).length + (evX stop (xtN x)).length) * 16 ≤ 140737488355328 := by omega
            have q3 : w.heap.size ≤ w2.heap.size := by have := hw2.le; omega
            have hownB := ownsRow_bel HO.out hbX
            have HOB2 := hide hownB
            clear hown2 hl2 hnews2 hownB
            go_wp2_with (first
              | (at_builtin
                 refine wpList_append_lies _ rfl _ _ 34 rfl w.heap.size 9 i0 _ 1 16 under_strs hi hz0 hz1 hz2 rfl (by decide) (.slice va (evP stop n i).length vc) (evP stop n i).length (strs (evP stop n i)) rfl HOB2.out ⟨g2, 0, none⟩ (evX stop (xtN x)).length rc (strs (evX stop (xtN x))) rfl HN.out.1 HN.out.2 (strs_one _) hpos q1 q2 q3 _ rfl ?_
                 intro g4 cap4 w4 hown4 hgrow4 hat4 hlt4
                 have hb4 : Bel w w4 := hw2.row hgrow4 (fun g hg => (HO.out.lt g hg).1)
                 have hu4 : But (w.heap.size + 1) w1 w4 := (hbu.trans (But.of_bel hbX)).grow2 hgrow4 HOB.out))
            have HG := hide (show _ ∧ _ from ⟨hown4, hat4⟩)
            clear hown4 hgrow4 hat4
            go_wp2_with fail
            go_roundw
            case rel =>
              obtain ⟨hown4, hat4⟩ := HG.out
              refine ⟨i + 1, hlt, by go_num, ?_, hb4, hu4, fun k hk => ?_⟩
              · rw [HSN.out, List.length_append, strs_append]
                exact hown4
              · have hk : g4 = k := by simpa [Value.ownBlock] using hk
                subst hk
                rcases hat4 with h | h
                · exact HOB.out g4 h
                · exact .inr (by omega)
            case measure => simp [intOf]; omega
          · have hie : i = (belowN n).length := by omega
            subst hie
            have hlen9 := evP_len stop n (belowN n).length
            have hown9 := hown
            generalize hP : (evP stop n (belowN n).length).length = Lp at hown9 hlen9 ⊢
            obtain ⟨va9, vc9, hv9⟩ := own_slice hown9
            have HO9 := hide hown9
            have hbX9 : Bel w (wr.alloc (.cells #[.string ⟨#[]⟩] 9)) := hbr.alloc _
            clear hown9
            go_wp2_with (first
              | (at_builtin
                 refine wpList_append_lies _ rfl _ _ 34 rfl w.heap.size 9 i0 _ 1 16 under_strs hi hz0 hz1 hz2 rfl (by decide) (.slice va Lp vc) Lp _ rfl (ownsRow_bel HO9.out (Bel.alloc (Bel.refl _) _)) ⟨wr.heap.size, 0, none⟩ 1 1 [.string ⟨#[]⟩] rfl rfl (World.news_of_block (heap_alloc_new wr (.cells #[.string ⟨#[]⟩] 9))) (fun u hu => by simp at hu; rcases hu with rfl; rfl) (by decide) (by unfold maxLen; omega) (by omega) (by have := hbr.le; simp; omega) _ rfl ?_
                 intro g5 cap5 w5 hown5 hgrow5 hat5 hlt5
                 have hb5 : Bel w w5 := hbX9.row hgrow5 (fun g hg => (HO9.out.lt g hg).1)))
            have HG5 := hide hown5
            clear hown5 hgrow5 hat5
            go_wp2_with fail
            go_ret
            have e : (evX stop (xtN n)).length = Lp + 1 := by rw [evX_go HNE.out, List.length_append, hP]; rfl
            refine ⟨some ⟨g5, 0, none⟩, cap5, by rw [e]; rfl, ?_, hb5⟩
            rw [e, evX_go HNE.out, strs_append]
            exact HG5.out
    · have he := hide (beq_kind hks)
      clear HBE
      unfold nodeV
      go_enter Tryz.func16, Tryz.ntmps16
      go_wp2_with fail
      go_ret
      rw [evX_stop he.out]
      exact ⟨_, _, rfl, by simpa [strs] using HO0.out, HB0.out⟩
end Go.Proofs.YtkkgfgllfbahlaaGreatFmt

namespace Go.Proofs.YtkkgfgllfbahlaaGreatFmt
open Go Go.RowKit
set_option linter.unusedSimpArgs false

/-- The texts lie in a row. -/
def StrAt (w : World) (L : List ByteArray) (b : Nat) : Prop := ∀ (i : Nat) (x : ByteArray), L[i]? = some x → w.cell? ⟨b, i, none⟩ = some (.string x)
theorem own_str {w : World} {base : Nat} {v : Value} {L : List ByteArray} (h : w.ownsRow base 9 1 v L.length (strs L)) (hL : 0 < L.length) : ∃ g cap, v = .slice (some ⟨g, 0, none⟩) L.length cap ∧ base ≤ g ∧ g < w.heap.size ∧ L.length ≤ cap ∧ cap ≤ maxLen ∧ StrAt w L g := by
  have hlt := h.lt
  have hcap := h.2
  obtain ⟨g, cap, rfl, -, hn⟩ := row_news h hL
  have hadd : ∀ j, (⟨g, 0, none⟩ : Addr).add j = ⟨g, 0 + j, none⟩ := fun j => by unfold Addr.add; split <;> simp_all
  refine ⟨g, cap, rfl, (hlt g rfl).1, (hlt g rfl).2, ?_, ?_, fun i x hx => ?_⟩
  · rcases hcap with ⟨h, _⟩ | ⟨g', cap', cur, hv, h1, h2, h3, h4, -⟩
    · simp at h
    · injection hv with _ _ hv; subst hv; exact h3
  · rcases hcap with ⟨h, _⟩ | ⟨g', cap', cur, hv, h1, h2, h3, h4, -⟩
    · simp at h
    · injection hv with _ _ hv; subst hv; exact h4
  · have := hn i (.string x) (by simp [strs, hx])
    rw [hadd, Nat.zero_add] at this
    exact this
theorem StrAt.bel {w w1 : World} {L : List ByteArray} {b : Nat} (h : StrAt w L b) (hb : b < w.heap.size) (hw : Bel w w1) : StrAt w1 L b := fun i x hx => (hw.at hb _).trans (h i x hx)

set_option maxRecDepth 100000 in
set_option maxHeartbeats 4000000 in
theorem equal_str (L : List ByteArray) (hL : L.length ≤ 4000) (b1 c1 b2 c2 : Nat) (w : World) (h1 : StrAt w L b1) (h2 : StrAt w L b2) (k1 : L.length ≤ c1) (k2 : L.length ≤ c2) (m1 : c1 ≤ maxLen) (m2 : c2 ≤ maxLen) :
    Calls Tryz.prog 14 #[.slice (some ⟨b1, 0, none⟩) L.length c1, .slice (some ⟨b2, 0, none⟩) L.length c2] w fun e w' => e = .returned (.bool true) ∧ Bel w w' := by
  unfold maxLen at m1 m2
  have H1 := hide h1
  have H2 := hide h2
  clear h1 h2
  go_enter Tryz.func14, Tryz.ntmps14
  go_wp2_with fail
  go_loopw [13] (fun c wr => ∃ i : Nat, i ≤ L.length ∧ c = .int .i64 i ∧ Bel w wr) (fun c _ => L.length - (intOf c).toNat)
  case atStart => exact ⟨0, Nat.zero_le _, rfl, Bel.refl _⟩
  case round =>
    obtain ⟨i, hin, rfl, hbr⟩ := hrel
    by_cases hlt : i < L.length
    · obtain ⟨x, hx⟩ : ∃ x, L[i]? = some x := ⟨L[i], by simp⟩
      have a0 := H1.out i x hx
      have d0 := H2.out i x hx
      have e0 := (hbr.at (World.block_lt_of_cell? w ⟨b1, i, none⟩ a0) i).trans a0
      have g0 := (hbr.at (World.block_lt_of_cell? w ⟨b2, i, none⟩ d0) i).trans d0
      clear a0 d0 hx
      have HB := hide hbr
      clear hbr
      go_wp2_with fail
      refine wp_region_quiet_lit (by kernel_rfl) (by kernel_rfl) ?_
      repeat (any_goals (first | go_big_quiet_step (fail) | quiet_step (fail)))
      refine wpQuiet_nil ?_
      intro _ hw'
      obtain ⟨nq, hw''⟩ := hw'
      subst hw''
      go_wp2_with fail
      go_roundw
      case rel => exact ⟨i + 1, hlt, by go_num, ⟨HB.out.os, HB.out.tape, HB.out.output, HB.out.size, HB.out.block⟩⟩
      case measure => simp [intOf]; omega
    · have hie : i = L.length := by omega
      subst hie
      have HB := hide hbr
      clear hbr
      go_wp2_with fail
      go_ret
      exact ⟨rfl, HB.out⟩
end Go.Proofs.YtkkgfgllfbahlaaGreatFmt

namespace Go.Proofs.YtkkgfgllfbahlaaGreatFmt
open Go Go.RowKit
set_option linter.unusedSimpArgs false

set_option maxRecDepth 100000 in
set_option maxHeartbeats 4000000 in
theorem law_events (n : Nd) (stop : ByteArray) (kv : Value) (w : World) (hn : NdK w.heap.size w n kv) (htok : TokTab w) (h0 : 0 < w.heap.size) :
    Calls Tryz.prog 4 #[nodeV n kv, .string stop] w fun e w' => e = .returned (.bool true) ∧ Bel w w' := by
  obtain ⟨a, cap, hv, hcap, hmx⟩ := hn.slice
  subst hv
  have hb : Bel w (w.alloc (.cells #[.string n.kind, .string n.text, .slice a n.kids.length cap] 24)) := (by repeat (first | exact Bel.refl _ | assumption | refine Bel.alloc ?_ _ | refine Bel.drew ?_ | refine Bel.set ?_ (by first | exact Nat.le_refl _ | (simp; done) | (simp; omega)) _))
  obtain ⟨fb, hfb⟩ := fits_tells n (.slice a n.kids.length cap) (w.alloc (.cells #[.string n.kind, .string n.text, .slice a n.kids.length cap] 24)) (hn.later hb)
  have HF := hide hfb
  have HS := hide (fun (W : World) (hW : Bel w W) => shaped_tells n (.slice a n.kids.length cap) W (hn.later hW))
  have HTK := hide htok
  have HN := hide hn
  clear hn hfb htok
  unfold Tells nodeV at HF HS
  unfold nodeV
  go_enter Tryz.func4, Tryz.ntmps4
  go_wp2_with fail
  refine HF.out.mono ?_
  rintro e w1 ⟨rfl, hT1⟩
  have hw1 : Bel w w1 := hb.trans hT1
  have c1 := hT1.at (b := w.heap.size) (by simp)
  have l1 : w.heap.size < w1.heap.size := by have := hT1.le; simp at this; omega
  cases fb
  · go_wp2_with fail
    go_ret
    exact ⟨rfl, hw1⟩
  by_cases hlen : (2147483647 : Int) < stop.size
  · have hd : decide ((2147483647 : Int) < stop.size) = true := by simpa using hlen
    go_wp2_with fail
    go_ret
    exact ⟨rfl, hw1⟩
  have hd : decide ((2147483647 : Int) < stop.size) = false := by simpa using hlen
  go_wp2_with fail
  refine (HS.out w1 hw1).mono ?_
  rintro e w2 ⟨rfl, hT2⟩
  have hw2 : Bel w w2 := hw1.trans hT2
  have c2 := hT2.at (b := w.heap.size) l1
  have l2 : w.heap.size < w2.heap.size := by have := hT2.le; omega
  cases hsh : shaped n
  · go_wp2_with fail
    go_ret
    exact ⟨rfl, hw2⟩
  have hsS : shS n = true := by simp [shaped] at hsh; exact hsh.2
  have hs400 : n.nodes ≤ 400 := few_nodes (by simp [shaped] at hsh; exact hsh.1)
  have hsz := (xt_size n).1
  have HI := hide (fun (W : World) (hW : Bel w W) => events_impl n hsS hs400 stop (.slice a n.kids.length cap) W (HN.out.later hW) (HTK.out.bel h0 hW) (Nat.lt_of_lt_of_le h0 hW.le))
  have HV := hide (fun (W : World) (hW : Bel w W) => events_spec stop (xtN n).size n (Nat.le_refl _) (ln_S' hsS) hs400 (.slice a n.kids.length cap) W (HN.out.later hW))
  unfold nodeV at HI HV
  go_wp2_with fail
  have hlen2 : (evX stop (xtN n)).length ≤ 4000 := by have := evX_len stop (xtN n); omega
  go_region_held3 (fun w' => w'.cell? ⟨w.heap.size, 0, none⟩ = some (.string n.kind) ∧ w'.cell? ⟨w.heap.size, 1, none⟩ = some (.string n.text) ∧ w'.cell? ⟨w.heap.size, 2, none⟩ = some (.slice a n.kids.length cap)) (go_keep) (first
    | (go_at_call 15
       with_reducible refine Calls.mono (HI.out _ ?_) ?_
       · exact (by repeat (first | exact Bel.refl _ | assumption | refine Bel.alloc ?_ _ | refine Bel.drew ?_ | refine Bel.set ?_ (by first | exact Nat.le_refl _ | (simp; done) | (simp; omega)) _))
       rintro e w3 ⟨a3, k3, rfl, hown3, hT3⟩
       have hw3 : Bel w w3 := Bel.trans (by repeat (first | exact Bel.refl _ | assumption | refine Bel.alloc ?_ _ | refine Bel.drew ?_ | refine Bel.set ?_ (by first | exact Nat.le_refl _ | (simp; done) | (simp; omega)) _)) hT3
       have c3 := hT3.at (b := w.heap.size) (by first | exact l2 | omega | (simp only [World.size_drew]; omega) | (simp; omega))
       obtain ⟨g3, q3, hv3, -, hl3, hp3, hr3, hs3⟩ := own_str hown3 (evX_pos _ _)
       injection hv3 with f1 f2 f3
       subst f1 f3
       have HO3 := hide hs3
       have l3 : w.heap.size < w3.heap.size := by have := hT3.le; simp only [World.size_drew] at this; omega
       clear hown3 hs3)
    | (go_at_call 16
       with_reducible refine Calls.mono (HV.out _ ?_) ?_
       · exact (by repeat (first | exact Bel.refl _ | assumption | refine Bel.alloc ?_ _ | refine Bel.drew ?_ | refine Bel.set ?_ (by first | exact Nat.le_refl _ | (simp; done) | (simp; omega)) _))
       rintro e w4 ⟨a4, k4, rfl, hown4, hT4⟩
       have hw4 : Bel w w4 := Bel.trans (by repeat (first | exact Bel.refl _ | assumption | refine Bel.alloc ?_ _ | refine Bel.drew ?_ | refine Bel.set ?_ (by first | exact Nat.le_refl _ | (simp; done) | (simp; omega)) _)) hT4
       have c4 := hT4.at (b := w.heap.size) (by first | exact l2 | omega | (simp only [World.size_drew]; omega) | (simp; omega))
       obtain ⟨g4, q4, hv4, -, hl4, hp4, hr4, hs4⟩ := own_str hown4 (evX_pos _ _)
       injection hv4 with f1 f2 f3
       subst f1 f3
       have hT34 : Bel w3 w4 := Bel.trans (by repeat (first | exact Bel.refl _ | assumption | refine Bel.alloc ?_ _ | refine Bel.drew ?_ | refine Bel.set ?_ (by first | exact Nat.le_refl _ | (simp; done) | (simp; omega)) _)) hT4
       have HO4 := hide hs4
       have l4 : w.heap.size < w4.heap.size := by have := hT4.le; (try simp only [World.size_drew] at this); omega
       clear hown4 hs4)
    | (go_at_call 14
       refine (equal_str (evX stop (xtN n)) hlen2 g3 k3 g4 k4 _ (HO3.out.bel hl3 ?_) (HO4.out.bel hl4 ?_) hp3 hp4 hr3 hr4).mono ?_
       · exact (by repeat (first | exact Bel.refl _ | assumption | refine Bel.alloc ?_ _ | refine Bel.drew ?_ | refine Bel.set ?_ (by first | exact Nat.le_refl _ | (simp; done) | (simp; omega)) _))
       · exact (by repeat (first | exact Bel.refl _ | assumption | refine Bel.alloc ?_ _ | refine Bel.drew ?_ | refine Bel.set ?_ (by first | exact Nat.le_refl _ | (simp; done) | (simp; omega)) _))
       rintro e w5 ⟨rfl, hT5⟩
       have hw5 : Bel w w5 := Bel.trans (by repeat (first | exact Bel.refl _ | assumption | refine Bel.alloc ?_ _ | refine Bel.drew ?_ | refine Bel.set ?_ (by first | exact Nat.le_refl _ | (simp; done) | (simp; omega)) _)) hT5
       have c5 := hT5.at (b := w.heap.size) (by first | exact l4 | omega | (simp only [World.size_drew]; omega) | (simp; omega))))
  all_goals go_wp2_with fail
  all_goals go_ret
  all_goals exact ⟨rfl, (by repeat (first | exact Bel.refl _ | assumption | refine Bel.alloc ?_ _ | refine Bel.drew ?_ | refine Bel.set ?_ (by first | exact Nat.le_refl _ | (simp; done) | (simp; omega)) _))⟩
end Go.Proofs.YtkkgfgllfbahlaaGreatFmt
