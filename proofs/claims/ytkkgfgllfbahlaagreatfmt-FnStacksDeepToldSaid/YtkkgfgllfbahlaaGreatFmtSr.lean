/- The law on the stacks' depth answers true. -/
import Derived.Test.YtkkgfgllfbahlaaGreatFmtSk
import Derived.Test.YtkkgfgllfbahlaaGreatFmtRi
import Derived.Test.YtkkgfgllfbahlaaGreatFmtSe
import Derived.Test.YtkkgfgllfbahlaaGreatFmtShU
import Derived.BigQuiet
import Derived.Deep.QuietTactic
set_option linter.unusedVariables false
set_option linter.unusedSimpArgs false
namespace Go.Proofs.YtkkgfgllfbahlaaGreatFmt
open Go Go.RowKit
set_option linter.unusedSimpArgs false

theorem deepL_get : ∀ (rs : List (List ByteArray)) (p : List ByteArray), deepL p rs → ∀ (i : Nat) (r : List ByteArray), rs[i]? = some r → 2 ≤ r.length ∧ ∃ q, (p :: rs)[i]? = some q ∧ r.dropLast <+: q
  | [], _, _, i, r, h => by simp at h
  | a :: rs, p, hd, 0, r, h => by
    simp only [List.getElem?_cons_zero, Option.some.injEq] at h
    subst h
    rw [deepL] at hd
    exact ⟨hd.1, p, rfl, hd.2.1⟩
  | a :: rs, p, hd, i + 1, r, h => by
    rw [deepL] at hd
    obtain ⟨h1, q, h2, h3⟩ := deepL_get rs a hd.2.2 i r (by simpa using h)
    exact ⟨h1, q, by simpa using h2, h3⟩
/-- Each row is one behind a beginning of the row ahead, and its last text is the kind. -/
theorem stX_rows (x : XT) (hne : neX x = true) : ∀ (i : Nat) (r : List ByteArray), (stX ⟨#[]⟩ x [])[i]? = some r → ∃ d k, r = d ++ [k] ∧ (preX x)[i]? = some k ∧ (i = 0 → d = []) ∧ (∀ j, i = j + 1 → 1 ≤ d.length ∧ ∃ q, (stX ⟨#[]⟩ x [])[j]? = some q ∧ d <+: q) := by
  intro i r hr
  have hl := stX_last x hne []
  have h1 : ((stX ⟨#[]⟩ x []).map fun r => r.getLast?)[i]? = ((preX x).map some)[i]? := by rw [hl]
  rw [List.getElem?_map, List.getElem?_map, hr] at h1
  cases hk : (preX x)[i]? with
  | none => rw [hk] at h1; simp at h1
  | some k =>
    rw [hk] at h1
    simp only [Option.map_some, Option.some.injEq] at h1
    have hrd : r = r.dropLast ++ [k] := by
      have hn : r ≠ [] := by intro e; subst e; simp at h1
      have := List.dropLast_concat_getLast hn
      rw [List.getLast?_eq_some_getLast hn] at h1
      injection h1 with h1
      rw [h1] at this
      exact this.symm
    obtain ⟨kk, ks⟩ := x
    rw [neX, Bool.and_eq_true] at hne
    have hkk := ne_of hne.1
    have hd := (stXs_deep ks hne.2 [kk] [kk] (by simp) (List.prefix_refl _)).1
    rw [stX, if_neg hkk, List.nil_append] at hr ⊢
    refine ⟨r.dropLast, k, hrd, rfl, ?_, ?_⟩
    · rintro rfl
      simp only [List.getElem?_cons_zero, Option.some.injEq] at hr
      subst hr
      rfl
    · rintro j rfl
      obtain ⟨h2, q, h3, h4⟩ := deepL_get _ _ hd j r (by simpa using hr)
      exact ⟨by rw [List.length_dropLast]; omega, q, h3, h4⟩
theorem stX_plen (x : XT) (hne : neX x = true) : (stX ⟨#[]⟩ x []).length = x.size := by
  have := congrArg List.length (stX_last x hne [])
  simpa [preX_len] using this
theorem StrAt.pre {w : World} {L M : List ByteArray} {b : Nat} (h : StrAt w M b) (hp : L <+: M) : StrAt w L b := by
  obtain ⟨t, rfl⟩ := hp
  exact fun i x hx => h i x (by rw [List.getElem?_append_left (List.getElem?_eq_some_iff.1 hx).1]; exact hx)

theorem bel_drewN {w w1 : World} (h : Bel w w1) (n : Nat) : Bel w (w1.drewN n) := ⟨h.os, h.tape, h.output, h.size, h.block⟩

set_option maxRecDepth 100000 in
set_option maxHeartbeats 4000000 in
/-- slices.Equal over two rows of the same texts: true, and nothing but draws. -/
theorem equal_still (L : List ByteArray) (hL : L.length ≤ 4000) (b1 c1 b2 c2 : Nat) (w : World) (h1 : StrAt w L b1) (h2 : StrAt w L b2) (k1 : L.length ≤ c1) (k2 : L.length ≤ c2) (m1 : c1 ≤ 9223372036854775807) (m2 : c2 ≤ 9223372036854775807) :
    Calls Tryz.prog 14 #[.slice (some ⟨b1, 0, none⟩) L.length c1, .slice (some ⟨b2, 0, none⟩) L.length c2] w fun e w' => e = .returned (.bool true) ∧ ∃ m, w' = w.drewN m := by
  have H1 := hide h1
  have H2 := hide h2
  clear h1 h2
  go_enter Tryz.func14, Tryz.ntmps14
  go_wp2_with fail
  go_loopw [13] (fun c wr => ∃ i : Nat, i ≤ L.length ∧ c = .int .i64 i ∧ ∃ m, wr = w.drewN m) (fun c _ => L.length - (intOf c).toNat)
  case atStart => exact ⟨0, Nat.zero_le _, rfl, 0, rfl⟩
  case round =>
    obtain ⟨i, hin, rfl, m, rfl⟩ := hrel
    by_cases hlt : i < L.length
    · obtain ⟨x, hx⟩ : ∃ x, L[i]? = some x := ⟨L[i], by simp⟩
      have e0 := H1.out i x hx
      have g0 := H2.out i x hx
      clear hx
      go_wp2_with fail
      refine wp_region_quiet_lit (by kernel_rfl) (by kernel_rfl) ?_
      repeat (any_goals (first | go_big_quiet_step (fail) | quiet_step (fail)))
      refine wpQuiet_nil ?_
      intro _ hw'
      obtain ⟨nq, hw''⟩ := hw'
      subst hw''
      go_wp2_with fail
      go_roundw
      case rel => exact ⟨i + 1, hlt, by go_num, _, rfl⟩
      case measure => simp [intOf]; omega
    · have hie : i = L.length := by omega
      subst hie
      go_wp2_with fail
      go_ret
      exact ⟨rfl, m, rfl⟩

set_option maxRecDepth 100000 in
set_option maxHeartbeats 8000000 in
theorem law_deep (n : Nd) (kv : Value) (w : World) (hn : NdK w.heap.size w n kv) (htok : TokTab w) (h0 : 0 < w.heap.size) :
    Calls Tryz.prog 8 #[nodeV n kv] w fun e w' => e = .returned (.bool true) ∧ Bel w w' := by
  obtain ⟨a, cap, hv, hcap, hmx⟩ := hn.slice
  subst hv
  have hb : Bel w (w.alloc (.cells #[.string n.kind, .string n.text, .slice a n.kids.length cap] 24)) := (by repeat (first | exact Bel.refl _ | assumption | refine Bel.alloc ?_ _ | refine Bel.drew ?_ | refine Bel.set ?_ (by first | exact Nat.le_refl _ | (simp; done) | (simp; omega)) _))
  obtain ⟨fb, hfb⟩ := fits_tells n (.slice a n.kids.length cap) (w.alloc (.cells #[.string n.kind, .string n.text, .slice a n.kids.length cap] 24)) (hn.later hb)
  have HF := hide hfb
  have HS := hide (fun (W : World) (hW : Bel w W) => shaped_tells n (.slice a n.kids.length cap) W (hn.later hW))
  have HTK := hide htok
  have HN := hide hn
  clear hn hfb htok
  unfold Tells nodeV at HF HS
  unfold nodeV
  go_enter Tryz.func8, Tryz.ntmps8
  go_wp2_with fail
  refine HF.out.mono ?_
  rintro e w1 ⟨rfl, hT1⟩
  have hw1 : Bel w w1 := hb.trans hT1
  have c1 := hT1.at (b := w.heap.size) (by simp)
  have l1 : w.heap.size < w1.heap.size := by have := hT1.le; simp at this; omega
  cases fb
  · go_wp2_with fail
    go_ret
    exact ⟨rfl, hw1⟩
  go_wp2_with fail
  refine (HS.out w1 hw1).mono ?_
  rintro e w2 ⟨rfl, hT2⟩
  have hw2 : Bel w w2 := hw1.trans hT2
  have c2 := hT2.at (b := w.heap.size) l1
  have l2 : w.heap.size < w2.heap.size := by have := hT2.le; omega
  cases hsh : shaped n
  · go_wp2_with fail
    go_ret
    exact ⟨rfl, hw2⟩
  have hsS : shS n = true := by simp [shaped] at hsh; exact hsh.2
  have hs400 : n.nodes ≤ 400 := few_nodes (by simp [shaped] at hsh; exact hsh.1)
  have hsz := (xt_size n).1
  have hne : neX (xtN n) = true := by rw [← bS_xt n.nodes n [] (Nat.le_refl _) hsS]; exact Ast.xt_ne _
  have hrows := stX_rows (xtN n) hne
  have hrl := stX_plen (xtN n) hne
  have hyl : (preX (xtN n)).take (max 1 (1000 : Int).toNat) = preX (xtN n) := by
    have e : (max 1 (1000 : Int).toNat) = 1000 := rfl
    rw [e]
    exact List.take_of_length_le (by rw [preX_len]; omega)
  have hkl := preX_len (xtN n)
  have hpos : 0 < (stX ⟨#[]⟩ (xtN n) []).length := by
    rcases hx : xtN n with ⟨k, ks⟩
    rw [stX]; simp
  have h8 : (stX ⟨#[]⟩ (xtN n) []).length ≤ 4000 := by omega
  have hlk : (preX (xtN n)).length = (stX ⟨#[]⟩ (xtN n) []).length := by omega
  have HI := hide (fun (W : World) (hW : Bel w W) => yields_impl n hsS hs400 1000 (.slice a n.kids.length cap) W (HN.out.later hW) (HTK.out.bel h0 hW) (Nat.lt_of_lt_of_le h0 hW.le))
  have HV := hide (fun (W : World) (hW : Bel w W) => stacks_impl n hsS hs400 ⟨#[]⟩ (.slice a n.kids.length cap) W (HN.out.later hW) (HTK.out.bel h0 hW) (Nat.lt_of_lt_of_le h0 hW.le))
  rw [hyl] at HI
  unfold nodeV at HI HV
  clear hrl hkl hyl hne
  generalize stX ⟨#[]⟩ (xtN n) [] = L at HV hrows hpos h8 hlk
  generalize preX (xtN n) = Y at HI hrows hlk
  have HRS := hide hrows
  clear hrows
  go_wp2_with fail
  with_reducible refine Calls.mono (HV.out _ hw2) ?_
  rintro e w3 ⟨a3, k3, x3, rfl, hown3, hrows3, hT3⟩
  have hw3 : Bel w w3 := hw2.trans hT3
  have c3 := hT3.at (b := w.heap.size) l2
  have l3 : w.heap.size < w3.heap.size := by have := hT3.le; omega
  have hcl := hown3.2
  obtain ⟨g3, q3, hv3, -, -⟩ := row_news hown3 hpos
  injection hv3 with f1 f2 f3
  subst f1 f3
  have hcc : L.length ≤ k3 ∧ k3 ≤ 9223372036854775807 := by
    rcases hcl with ⟨q, -⟩ | ⟨_, _, _, hv, _, _, h3, h4, _⟩
    · simp at q
    · injection hv with _ _ hv; subst hv; exact ⟨h3, h4⟩
  obtain ⟨k31, k32⟩ := hcc
  have HO3 := hide (show _ ∧ _ from ⟨hown3, hrows3⟩)
  clear hown3 hrows3 hcl
  go_wp2_with fail
  with_reducible refine Calls.mono (HI.out _ hw3) ?_
  rintro e w4 ⟨a4, k4, rfl, hown4, hT4⟩
  have hw4 : Bel w w4 := hw3.trans hT4
  obtain ⟨g4, q4, hv4, -, hl4, hp4, hr4, hs4⟩ := own_str hown4 (by omega)
  injection hv4 with f1 f2 f3
  subst f1 f3
  have HO4 := hide hs4
  have HR4 := hide (show _ ∧ _ from ⟨ownsRow_bel HO3.out.1 hT4, HO3.out.2.keep (grown_bel hT4) (fun q hq => by cases hq)⟩)
  unfold maxLen at hr4
  rw [hlk] at hp4 ⊢
  clear hown4 hs4 HO3
  have hz0 : ((L.length : Int) == 0) = false := beq_eq_false_iff_ne.2 (by omega)
  go_wp2_with fail
  go_loopw [29] (fun c wr => ∃ i : Nat, i ≤ L.length ∧ c = .int .i64 i ∧ Bel w4 wr) (fun c _ => L.length - (intOf c).toNat)
  case atStart => exact ⟨0, Nat.zero_le _, rfl, Bel.refl _⟩
  case round =>
    obtain ⟨i, hin, rfl, hbr⟩ := hrel
    have hbw : Bel w wr := hw4.trans hbr
    by_cases hlt : i < L.length
    · obtain ⟨r, hr⟩ : ∃ r, L[i]? = some r := ⟨L[i], by simp⟩
      obtain ⟨d, k, rfl, hk, hd0, hdj⟩ := HRS.out i r hr
      obtain ⟨u, hu⟩ : ∃ u, x3[i]? = some u := ⟨x3[i]'(by rw [← HR4.out.2.1]; exact hlt), by simp⟩
      obtain ⟨p1, p2, p3⟩ := HR4.out.2.2 i _ u hr hu
      obtain ⟨g1, q1, rfl, -, l1', m1, m2, s1⟩ := own_str p3 p1
      have e0 := (hbr.at (World.block_lt_of_cell? w4 ⟨g3, i, none⟩ (cellsOf_row HR4.out.1 i _ hu)) i).trans (cellsOf_row HR4.out.1 i _ hu)
      have e1 := (hbr.at hl4 i).trans (HO4.out i k hk)
      have e2 := (hbr.at l1' d.length).trans (s1 d.length k (by simp))
      have S1 := hide (s1.bel l1' hbr)
      have hlen : (d ++ [k]).length = d.length + 1 := by simp
      rw [hlen] at e0 m1 p2
      unfold maxLen at m2
      clear hr hk hu p3 s1 p1 hlen
      cases i with
      | zero =>
        obtain rfl := hd0 rfl
        clear hd0 hdj
        simp only [List.length_nil] at e2 e0 m1
        go_wp2_with fail
        refine wp_region_quiet_lit (by kernel_rfl) (by kernel_rfl) ?_
        repeat (any_goals (first | go_big_quiet_step (fail) | quiet_step (fail)))
        refine wpQuiet_nil ?_
        intro _ hw'
        obtain ⟨nq, hw''⟩ := hw'
        subst hw''
        go_wp2_with fail
        go_roundw
        case rel => exact ⟨1, hlt, by go_num, bel_drewN hbr _⟩
        case measure => simp [intOf]; omega
      | succ j =>
        clear hd0
        obtain ⟨hd1, q, hq, hdq⟩ := hdj j rfl
        clear hdj
        have hjl : j < L.length := by omega
        obtain ⟨u, hu⟩ : ∃ u, x3[j]? = some u := ⟨x3[j]'(by rw [← HR4.out.2.1]; exact hjl), by simp⟩
        obtain ⟨p1', p2', p3⟩ := HR4.out.2.2 j q u hq hu
        obtain ⟨g5, q5, rfl, -, l5, m5, m6, s5⟩ := own_str p3 p1'
        have e3 := (hbr.at (World.block_lt_of_cell? w4 ⟨g3, j, none⟩ (cellsOf_row HR4.out.1 j _ hu)) j).trans (cellsOf_row HR4.out.1 j _ hu)
        have S5 := hide ((s5.bel l5 hbr).pre hdq)
        have S2 := hide (StrAt.pre S1.out (List.prefix_append d [k]))
        have hdl : d.length ≤ q.length := hdq.length_le
        unfold maxLen at m6
        clear hq hu p3 s5 p1' hdq
        have HE := hide (fun (m : Nat) => equal_still d (by omega) g1 q1 g5 q5 (wr.drewN m) (fun i x hx => S2.out i x hx) (fun i x hx => S5.out i x hx) (by omega) (by omega) (by omega) (by omega))
        have f1 : (((d.length : Int) + 1) == 0) = false := by simp; omega
        have f2 : IntKind.i64.wrap (d.length : Int) = d.length := IntWalk.i64_in _ (by omega)
        have f3 : IntKind.i64.wrap (j : Int) = j := IntWalk.i64_in _ (by omega)
        have f4 : IntKind.i64.wrap ((q.length : Int) + 1) = (q.length : Int) + 1 := IntWalk.i64_in _ (by omega)
        have f5 : decide ((d.length : Int) + 1 < 2) = false := by simp; omega
        have f6 : decide ((q.length : Int) + 1 < (d.length : Int) + 1) = false := by simp; omega
        have f7 : decide ((0 : Int) < (j : Int) + 1) = true := decide_eq_true (by omega)
        have f8 : decide ((q.length : Int) < (d.length : Int)) = false := by simp; omega
        have f9 : d.length ≤ q1 := by omega
        have f10 : d.length ≤ q5 := by omega
        clear S5 S2 S1 HS HF HI HV HN HTK
        go_wp2_with fail
        refine wp_region_quiet_lit (by kernel_rfl) (by kernel_rfl) ?_
        repeat (any_goals (first | go_big_quiet_step (fail) | quiet_step (fail)))
        refine wpQuiet_step (fun K hK => ?_)
        go_simp
        refine ⟨.bool true, fun m => Calls.quiet_of (HE.out m), hK _ ?_⟩
        clear hK K
        repeat (any_goals (first | go_big_quiet_step (fail) | quiet_step (fail)))
        refine wpQuiet_nil ?_
        intro _ hw'
        obtain ⟨nq, hw''⟩ := hw'
        subst hw''
        go_wp2_with fail
        go_roundw
        case rel => exact ⟨j + 2, hlt, by go_num, bel_drewN hbr _⟩
        case measure => simp [intOf]; omega
    · have hil : i = L.length := by omega
      subst hil
      obtain ⟨r, hr⟩ : ∃ r, L[0]? = some r := ⟨L[0], by simp⟩
      obtain ⟨d, k, rfl, hk, hd0, -⟩ := HRS.out 0 r hr
      obtain rfl := hd0 rfl
      obtain ⟨u, hu⟩ : ∃ u, x3[0]? = some u := ⟨x3[0]'(by rw [← HR4.out.2.1]; exact hpos), by simp⟩
      obtain ⟨p1, p2, p3⟩ := HR4.out.2.2 0 _ u hr hu
      obtain ⟨g1, q1, rfl, -, -⟩ := own_str p3 p1
      have e0 := (hbr.at (World.block_lt_of_cell? w4 ⟨g3, 0, none⟩ (cellsOf_row HR4.out.1 0 _ hu)) 0).trans (cellsOf_row HR4.out.1 0 _ hu)
      simp only [List.nil_append, List.length_cons, List.length_nil, Nat.zero_add] at e0
      clear hr hk hu p1 p3
      have HB := hide hbw
      clear hbr hbw hd0
      go_wp2_with fail
      go_ret
      exact ⟨rfl, HB.out⟩
end Go.Proofs.YtkkgfgllfbahlaaGreatFmt
