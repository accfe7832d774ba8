/- spec.Visits.
slices.Equal over spans: two rows of the same spans are equal.
The law on Visits answers true. -/
import Derived.Test.YtkkgfgllfbahlaaGreatFmtSb
import Derived.Test.YtkkgfgllfbahlaaGreatFmtVi
import Derived.BigQuiet
import Derived.Laws.StructEq
import Derived.Deep.QuietTactic
import Derived.Test.YtkkgfgllfbahlaaGreatFmtShU
import Derived.Deep.RegionHeld3
set_option linter.unusedVariables false
set_option linter.unusedSimpArgs false
namespace Go.Proofs.YtkkgfgllfbahlaaGreatFmt
open Go Go.RowKit
set_option linter.unusedSimpArgs false

theorem below_nodes {n k : Nd} (h : k ∈ belowN n) : k.nodes ≤ n.nodes := by
  obtain ⟨q, t, ks⟩ := n
  have hp : ∀ x : Nd, x = .mk ⟨#[110, 97, 109, 101]⟩ t [] → x.nodes ≤ (Nd.mk q t ks).nodes := by rintro x rfl; simp only [Nd.nodes, nodesL]; omega
  simp only [belowN, List.mem_append] at h
  rcases h with (h | h) | h
  · split at h
    · simp at h; exact hp k h
    · simp at h
  · rw [List.mem_flatMap] at h
    obtain ⟨y, hy, h⟩ := h
    have h1 := nodesL_mem hy
    have h3 := Nd.nodes_kids y
    simp only [Nd.nodes]
    split at h
    · have h2 := nodesL_mem h; omega
    · split at h
      · simp at h
      · simp at h; subst h; omega
  · split at h
    · simp at h; exact hp k h
    · simp at h
theorem below_size {n k : Nd} (h : k ∈ belowN n) : (xtN k).size < (xtN n).size := by
  rw [xtN_below n, XT.size]
  have := sizeXs_mem (List.mem_map_of_mem (f := xtN) h)
  omega
theorem visXs_append (stop : ByteArray) (d : Int) : ∀ a b : List XT, visXs stop (a ++ b) d = visXs stop a d ++ visXs stop b d
  | [], b => by simp [visXs]
  | x :: r, b => by simp only [List.cons_append, visXs, visXs_append stop d r b, List.append_assoc]
theorem visX_pos (stop : ByteArray) (x : XT) (d : Int) : 0 < (visX stop x d).length := by
  cases x; rw [visX]; simp
theorem spV_len (L : List Sp) : (L.flatMap spV).length = L.length * 3 := by
  induction L with
  | nil => rfl
  | cons x r ih => simp [spV, ih]; omega
theorem spV_one (L : List Sp) : ∀ u ∈ L.flatMap spV, u.oneCell' = true := by
  intro u hu
  rw [List.mem_flatMap] at hu
  obtain ⟨x, -, hu⟩ := hu
  simp [spV] at hu
  rcases hu with rfl | rfl | rfl <;> rfl
/-- What has been gathered ahead of the i-th part. -/
def visP (stop : ByteArray) (n : Nd) (d : Int) (i : Nat) : List Sp := (n.kind, d, d) :: visXs stop (((belowN n).take i).map xtN) (d + 1)
theorem visP_snoc (stop : ByteArray) (n : Nd) (d : Int) (i : Nat) (x : Nd) (hx : (belowN n)[i]? = some x) : visP stop n d (i + 1) = visP stop n d i ++ visX stop (xtN x) (d + 1) := by
  obtain ⟨hi, he⟩ := List.getElem?_eq_some_iff.1 hx
  unfold visP
  rw [List.take_succ_eq_append_getElem hi, he, List.map_append, visXs_append]
  simp [visXs]
theorem visP_len (stop : ByteArray) (n : Nd) (d : Int) (i : Nat) : (visP stop n d i).length + 1 ≤ 2 * (xtN n).size := by
  have h1 := visXs_len stop (((belowN n).take i).map xtN) (d + 1)
  have h2 := sizeXs_append (((belowN n).take i).map xtN) (((belowN n).drop i).map xtN)
  rw [← List.map_append, List.take_append_drop] at h2
  rw [xtN_below n, XT.size]
  simp only [visP, List.length_cons]
  omega
theorem visX_stop {stop : ByteArray} {n : Nd} {d : Int} (h : n.kind = stop) : visX stop (xtN n) d = [(n.kind, d, d)] := by rw [xtN_below n, visX, if_pos h]
theorem visX_go {stop : ByteArray} {n : Nd} {d : Int} (h : ¬ n.kind = stop) : visX stop (xtN n) d = visP stop n d (belowN n).length ++ [(⟨#[]⟩, d + 1, d + 1)] := by
  rw [xtN_below n, visX, if_neg h, visP, List.take_length]
  rfl
theorem beq_kind {a b : ByteArray} (h : (a.toList == b.toList) = true) : a = b := (ba_of (beq_iff_eq.1 h)).trans (ba_of rfl).symm
theorem beq_kind_ne {a b : ByteArray} (h : (a.toList == b.toList) = false) : ¬ a = b := by rintro rfl; simp at h

/-- The nodes of a row that is owned. -/
theorem own_get {N : Nat} {W w1 : World} {base : Nat} {sv : Value} : ∀ {L : List Nd} {vs : List Value}, w1.ownsRow base 24 3 sv L.length vs → Nds N W L vs → 0 < L.length →
    ∃ g cap, sv = .slice (some ⟨g, 0, none⟩) L.length cap ∧ base ≤ g ∧ g < w1.heap.size ∧ L.length ≤ cap ∧ cap ≤ maxLen ∧ ∀ (i : Nat) (x : Nd), L[i]? = some x → ∃ xv, w1.cell? ⟨g, 0 + 3 * i, none⟩ = some (.string x.kind) ∧ w1.cell? ⟨g, 0 + 3 * i + 1, none⟩ = some (.string x.text) ∧ w1.cell? ⟨g, 0 + 3 * i + 2, none⟩ = some xv ∧ NdK N W x xv := by
  intro L vs ho hn hpos
  have hlt := ho.lt
  obtain ⟨g, cap, rfl, hl, hnews⟩ := row_news ho hpos
  have hadd : ∀ j, (⟨g, 0, none⟩ : Addr).add j = ⟨g, 0 + j, none⟩ := fun j => by unfold Addr.add; split <;> simp_all
  have hcap : L.length ≤ cap ∧ cap ≤ maxLen := by
    rcases ho.2 with ⟨h, _⟩ | ⟨g', cap', cur, hv, h1, h2, h3, h4, -⟩
    · simp at h
    · injection hv with _ _ hv; subst hv; exact ⟨h3, h4⟩
  refine ⟨g, cap, rfl, (hlt g rfl).1, (hlt g rfl).2, hcap.1, hcap.2, fun i x hx => ?_⟩
  have hrow : RowK (g + 1 + N) w1 [] g 0 := by simp [RowK]
  have key : ∀ (L : List Nd) (vs : List Value) (o i : Nat) (x : Nd), Nds N W L vs → (∀ j u, vs[j]? = some u → w1.cell? ⟨g, o + j, none⟩ = some u) → L[i]? = some x →
      ∃ xv, w1.cell? ⟨g, o + 3 * i, none⟩ = some (.string x.kind) ∧ w1.cell? ⟨g, o + 3 * i + 1, none⟩ = some (.string x.text) ∧ w1.cell? ⟨g, o + 3 * i + 2, none⟩ = some xv ∧ NdK N W x xv := by
    intro L
    induction L with
    | nil => intro vs o i x _ _ h; simp at h
    | cons y r ih =>
      intro vs o i x hn hc hx
      obtain ⟨kv, r2, rfl, hk, hr⟩ := hn
      cases i with
      | zero =>
        simp at hx
        subst hx
        exact ⟨kv, hc 0 _ rfl, hc 1 _ rfl, hc 2 _ rfl, hk⟩
      | succ i =>
        obtain ⟨xv, c0, c1, c2, hk2⟩ := ih r2 (o + 3) i x hr (fun j u hu => by rw [← hc (j + 3) u (by simpa using hu)]; congr 2; omega) (by simpa using hx)
        exact ⟨xv, by rw [← c0]; congr 2; omega, by rw [← c1]; congr 2; omega, by rw [← c2]; congr 2; omega, hk2⟩
  exact key L vs 0 i x hn (fun j u hu => by rw [← hadd]; exact hnews j u hu) hx
theorem But.grow2 {lb : Nat} {a b c : World} {row : Option Nat} (h : But lb a b) (hg : b.grownBy c row) (hr : ∀ k, row = some k → k = lb ∨ a.heap.size ≤ k) : But lb a c :=
  ⟨hg.os.trans h.os, hg.tape.trans h.tape, hg.output.trans h.output, Nat.le_trans h.size hg.size, fun k hk hne => (hg.block k (Nat.lt_of_lt_of_le hk h.size) (fun e => by
    rcases hr k e.symm with h1 | h1
    · subst h1; exact hne rfl
    · omega)).trans (h.block k hk hne)⟩

set_option maxRecDepth 100000 in
set_option maxHeartbeats 8000000 in
theorem visits_spec (stop : ByteArray) : ∀ (m : Nat) (n : Nd), (xtN n).size ≤ m → lnN n = true → n.nodes ≤ 400 → ∀ (d : Int) (kv : Value) (w : World), 0 ≤ d → d + (xtN n).size ≤ 4000 → NdK w.heap.size w n kv →
    Calls Tryz.prog 13 #[nodeV n kv, .string stop, .int .i64 d] w (SpPost (visX stop (xtN n) d) w) := by
  intro m
  induction m with
  | zero => intro n hm; have := visX_len stop (xtN n) 0; have := visX_pos stop (xtN n) 0; omega
  | succ m ih =>
    intro n hm hl h400 d kv w hd0 hd hn
    have IH := hide ih
    clear ih
    obtain ⟨i0, hi, hz0, hz1, hz2⟩ := info_parts info_span
    obtain ⟨a, cap, hv, hcap, hmx⟩ := hn.slice
    subst hv
    have hsz := (xt_size n).1
    have HBE := hide (fun W (hb : Bel w W) => below_any n hl h400 (.slice a n.kids.length cap) W w.heap.size hb.le (hn.stay (Nat.le_refl _) (hb.same (Nat.le_refl _))))
    have HLN := hide hl
    clear hn hl
    have hb0 : Bel w ((w.alloc (.cells #[.string n.kind, .string n.text, .slice a n.kids.length cap] 24)).alloc (.cells #[.string n.kind, .int .i64 d, .int .i64 d] 29)) := (by repeat (first | exact Bel.refl _ | assumption | refine Bel.alloc ?_ _ | refine Bel.drew ?_ | refine Bel.set ?_ (by first | exact Nat.le_refl _ | (simp; done) | (simp; omega)) _))
    have hown0 : ((w.alloc (.cells #[.string n.kind, .string n.text, .slice a n.kids.length cap] 24)).alloc (.cells #[.string n.kind, .int .i64 d, .int .i64 d] 29)).ownsRow w.heap.size 29 3 (.slice (some ⟨w.heap.size + 1, 0, none⟩) 1 1) 1 [.string n.kind, .int .i64 d, .int .i64 d] :=
      ⟨rfl, .inr ⟨w.heap.size + 1, 1, _, rfl, by omega, by simpa using heap_alloc_new (w.alloc (.cells #[.string n.kind, .string n.text, .slice a n.kids.length cap] 24)) (.cells #[.string n.kind, .int .i64 d, .int .i64 d] 29), Nat.le_refl _, by decide, rfl, rfl⟩⟩
    have HO0 := hide hown0
    have HB0 := hide hb0
    clear hown0 hb0
    cases hks : (n.kind.toList == stop.toList)
    · have HNE := hide (beq_kind_ne hks)
      unfold nodeV at HBE ⊢
      go_enter Tryz.func13, Tryz.ntmps13
      go_wp2_with fail
      with_reducible refine Calls.mono (HBE.out _ HB0.out) ?_
      rintro e w1 ⟨sv, vs1, rfl, hown1b, hnd1, hT1⟩
      have hw1 : Bel w w1 := HB0.out.trans hT1
      have z1 := hT1.le
      simp only [World.size_alloc] at z1 hown1b
      have hown1 := ownsRow_bel HO0.out hT1
      rcases Nat.eq_zero_or_pos (belowN n).length with hz | hz
      · have hsv : sv = .slice none 0 0 ∨ ∃ g c, sv = .slice (some ⟨g, 0, none⟩) 0 c := by
          rcases hown1b.2 with ⟨h, -⟩ | ⟨g, c, cur, h, -⟩
          · exact .inl h
          · rw [hz] at h; exact .inr ⟨g, c, h⟩
        have hPz : visP stop n d (belowN n).length = [(n.kind, d, d)] := by rw [hz]; simp [visP, visXs]
        have hownP : w1.ownsRow w.heap.size 29 3 (.slice (some ⟨w.heap.size + 1, 0, none⟩) 1 1) (visP stop n d (belowN n).length).length ((visP stop n d (belowN n).length).flatMap spV) := by rw [hPz]; simpa [spV] using hown1
        have hL1 : (visP stop n d (belowN n).length).length = 1 := by rw [hPz]; rfl
        have HOP := hide hownP
        clear hownP hown1 hown1b hnd1
        rcases hsv with rfl | ⟨g, c, rfl⟩
        all_goals go_wp2_with fail
        all_goals refine wp_loop_rounds 1 ?_
        all_goals rw [rounds_succ]
        all_goals (
          have hlen9 := visP_len stop n d (belowN n).length
          have hown9 : w1.ownsRow w.heap.size 29 3 (.slice (some ⟨w.heap.size + 1, 0, none⟩) 1 1) 1 ((visP stop n d (belowN n).length).flatMap spV) := by have h := HOP.out; rw [hL1] at h; exact h
          have hP := hL1
          have HO9 := hide hown9
          have hbX9 : Bel w (w1.alloc (.cells #[.string ⟨#[]⟩, .int .i64 (d + 1), .int .i64 (d + 1)] 29)) := hw1.alloc _
          clear hown9
          go_wp2_with (first
            | (at_builtin
               refine wpList_append_lies _ rfl _ _ 27 rfl w.heap.size 29 i0 _ 3 32 under_spans hi hz0 hz1 hz2 rfl (by decide) (.slice (some ⟨w.heap.size + 1, 0, none⟩) 1 1) 1 _ rfl (ownsRow_bel HO9.out (Bel.alloc (Bel.refl _) _)) ⟨w1.heap.size, 0, none⟩ 1 1 [.string ⟨#[]⟩, .int .i64 (d + 1), .int .i64 (d + 1)] rfl rfl (World.news_of_block (heap_alloc_new w1 (.cells #[.string ⟨#[]⟩, .int .i64 (d + 1), .int .i64 (d + 1)] 29))) (fun u hu => by simp at hu; rcases hu with rfl | rfl | rfl <;> rfl) (by decide) (by unfold maxLen; omega) (by omega) (by have := hw1.le; simp; omega) _ rfl ?_
               intro g5 cap5 w5 hown5 hgrow5 hat5 hlt5
               have hb5 : Bel w w5 := hbX9.row hgrow5 (fun g hg => (HO9.out.lt g hg).1)))
          have HG5 := hide hown5
          clear hown5 hgrow5 hat5
          go_wp2_with fail
          go_ret
          have e : (visX stop (xtN n) d).length = 1 + 1 := by rw [visX_go HNE.out, List.length_append, hP]; rfl
          refine ⟨some ⟨g5, 0, none⟩, cap5, by rw [e]; rfl, ?_, hb5⟩
          rw [e, visX_go HNE.out, List.flatMap_append]
          exact HG5.out)
      · obtain ⟨g1, cap1, rfl, hg1, hg2, hcp1, hcp2, hget⟩ := own_get hown1b hnd1 hz
        have HR := hide hget
        have HO1 := hide hown1
        have hbl := below_len n
        unfold maxLen at hcp2
        clear hget hown1 hown1b hnd1
        go_wp2_with fail
        go_loopw [7, 24] (fun v c wr => ∃ i : Nat, i ≤ (belowN n).length ∧ c = .int .i64 i ∧ wr.ownsRow w.heap.size 29 3 v (visP stop n d i).length ((visP stop n d i).flatMap spV) ∧ Bel w wr ∧ But (w.heap.size + 1) w1 wr ∧ (∀ k, v.ownBlock = some k → k = w.heap.size + 1 ∨ w1.heap.size ≤ k)) (fun _ c _ => (belowN n).length - (intOf c).toNat)
        case atStart => exact ⟨0, Nat.zero_le _, rfl, by simpa [visP, visXs, spV] using HO1.out, hw1, But.refl _ _, fun k hk => .inl (by simpa [Value.ownBlock] using hk.symm)⟩
        case round =>
          obtain ⟨i, hin, rfl, hown, hbr, hbu, hob⟩ := hrel
          obtain ⟨va, vc, rfl⟩ := own_slice hown
          have hpl := visP_len stop n d i
          have zr := hbu.le
          by_cases hlt : i < (belowN n).length
          · obtain ⟨x, hx⟩ : ∃ x, (belowN n)[i]? = some x := ⟨(belowN n)[i], by simp⟩
            obtain ⟨xv, c0, c1, c2, hkn⟩ := HR.out i x hx
            obtain ⟨xa, xcap, hxv, -, -⟩ := hkn.slice
            subst hxv
            have s0 := (hbu.at (b := g1) hg2 (by omega) (0 + 3 * i)).trans c0
            have s1 := (hbu.at (b := g1) hg2 (by omega) (0 + 3 * i + 1)).trans c1
            have s2 := (hbu.at (b := g1) hg2 (by omega) (0 + 3 * i + 2)).trans c2
            rw [Nat.zero_add, Nat.mul_comm] at s0 s1 s2
            have hxm := List.mem_of_getElem? hx
            have hxs := below_size hxm
            have hxn := below_nodes hxm
            have hsn := visP_snoc stop n d i x hx
            have hpl2 := visP_len stop n d (i + 1)
            rw [hsn, List.length_append] at hpl2
            have HSN := hide hsn
            have HX := hide (fun W (hb : Bel w W) => IH.out x (by omega) (lnN_below HLN.out x hxm) (by omega) (d + 1) (.slice xa x.kids.length xcap) W (by omega) (by omega) (hkn.stay hb.le (fun k hk => (hb.block k hk).trans (HB0.out.block k hk).symm)))
            have HO := hide hown
            have HOB := hide hob
            clear hown c0 c1 c2 hkn hx hsn hxm hob
            unfold nodeV at HX
            go_wp2_with fail
            with_reducible refine Calls.mono (HX.out _ ?_) ?_
            · exact (by repeat (first | exact Bel.refl _ | assumption | refine Bel.alloc ?_ _ | refine Bel.drew ?_ | refine Bel.set ?_ (by first | exact Nat.le_refl _ | (simp; done) | (simp; omega)) _))
            rintro e w2 ⟨ra, rc, rfl, hown2, hT2⟩
            have hw2 : Bel w w2 := Bel.trans (by repeat (first | exact Bel.refl _ | assumption | refine Bel.alloc ?_ _ | refine Bel.drew ?_ | refine Bel.set ?_ (by first | exact Nat.le_refl _ | (simp; done) | (simp; omega)) _)) hT2
            have hbX : Bel wr w2 := Bel.trans (Bel.alloc (Bel.refl _) _) hT2
            have zx := hbX.le
            obtain ⟨g2, cap2, hv2, hl2, hnews2⟩ := row_news hown2 (visX_pos stop (xtN x) (d + 1))
            have hpos := visX_pos stop (xtN x) (d + 1)
            injection hv2 with f1 f2 f3
            subst f1 f3
            have HN := hide (show _ ∧ _ from ⟨hl2, hnews2⟩)
            have q1 : (visP stop n d i).length + (visX stop (xtN x) (d + 1)).length ≤ maxLen := by unfold maxLen; omega
            have q2 : ((visP stop n d i).length + (visX stop (xtN x) (d + 1)).length) * 32 ≤ 140737488355328 := by omega
            have q3 : w.heap.size ≤ w2.heap.size := by have := hw2.le; omega
            have hownB := ownsRow_bel HO.out hbX
            have HOB2 := hide hownB
            clear hown2 hl2 hnews2 hownB
            go_wp2_with (first
              | (at_builtin
                 refine wpList_append_lies _ rfl _ _ 27 rfl w.heap.size 29 i0 _ 3 32 under_spans hi hz0 hz1 hz2 rfl (by decide) (.slice va (visP stop n d i).length vc) (visP stop n d i).length ((visP stop n d i).flatMap spV) rfl HOB2.out ⟨g2, 0, none⟩ (visX stop (xtN x) (d + 1)).length rc ((visX stop (xtN x) (d + 1)).flatMap spV) rfl HN.out.1 HN.out.2 (spV_one _) hpos q1 q2 q3 _ rfl ?_
                 intro g4 cap4 w4 hown4 hgrow4 hat4 hlt4
                 have hb4 : Bel w w4 := hw2.row hgrow4 (fun g hg => (HO.out.lt g hg).1)
                 have hu4 : But (w.heap.size + 1) w1 w4 := (hbu.trans (But.of_bel hbX)).grow2 hgrow4 HOB.out))
            have HG := hide (show _ ∧ _ from ⟨hown4, hat4⟩)
            clear hown4 hgrow4 hat4
            go_wp2_with fail
            go_roundw
            case rel =>
              obtain ⟨hown4, hat4⟩ := HG.out
              refine ⟨i + 1, hlt, by go_num, ?_, hb4, hu4, fun k hk => ?_⟩
              · rw [HSN.out, List.length_append, List.flatMap_append]
                exact hown4
              · have hk : g4 = k := by simpa [Value.ownBlock] using hk
                subst hk
                rcases hat4 with h | h
                · exact HOB.out g4 h
                · exact .inr (by omega)
            case measure => simp [intOf]; omega
          · have hie : i = (belowN n).length := by omega
            subst hie
            have hlen9 := visP_len stop n d (belowN n).length
            have hown9 := hown
            generalize hP : (visP stop n d (belowN n).length).length = Lp at hown9 hlen9 ⊢
            obtain ⟨va9, vc9, hv9⟩ := own_slice hown9
            have HO9 := hide hown9
            have hbX9 : Bel w (wr.alloc (.cells #[.string ⟨#[]⟩, .int .i64 (d + 1), .int .i64 (d + 1)] 29)) := hbr.alloc _
            clear hown9
            go_wp2_with (first
              | (at_builtin
                 refine wpList_append_lies _ rfl _ _ 27 rfl w.heap.size 29 i0 _ 3 32 under_spans hi hz0 hz1 hz2 rfl (by decide) (.slice va Lp vc) Lp _ rfl (ownsRow_bel HO9.out (Bel.alloc (Bel.refl _) _)) ⟨wr.heap.size, 0, none⟩ 1 1 [.string ⟨#[]⟩, .int .i64 (d + 1), .int .i64 (d + 1)] rfl rfl (World.news_of_block (heap_alloc_new wr (.cells #[.string ⟨#[]⟩, .int .i64 (d + 1), .int .i64 (d + 1)] 29))) (fun u hu => by simp at hu; rcases hu with rfl | rfl | rfl <;> rfl) (by decide) (by unfold maxLen; omega) (by omega) (by have := hbr.le; simp; omega) _ rfl ?_
                 intro g5 cap5 w5 hown5 hgrow5 hat5 hlt5
                 have hb5 : Bel w w5 := hbX9.row hgrow5 (fun g hg => (HO9.out.lt g hg).1)))
            have HG5 := hide hown5
            clear hown5 hgrow5 hat5
            go_wp2_with fail
            go_ret
            have e : (visX stop (xtN n) d).length = Lp + 1 := by rw [visX_go HNE.out, List.length_append, hP]; rfl
            refine ⟨some ⟨g5, 0, none⟩, cap5, by rw [e]; rfl, ?_, hb5⟩
            rw [e, visX_go HNE.out, List.flatMap_append]
            exact HG5.out
    · have he := hide (beq_kind hks)
      clear HBE
      unfold nodeV
      go_enter Tryz.func13, Tryz.ntmps13
      go_wp2_with fail
      go_ret
      rw [visX_stop he.out]
      exact ⟨_, _, rfl, by simpa [spV] using HO0.out, HB0.out⟩
end Go.Proofs.YtkkgfgllfbahlaaGreatFmt

namespace Go.Proofs.YtkkgfgllfbahlaaGreatFmt
open Go Go.RowKit
set_option linter.unusedSimpArgs false

/-- The spans lie in a row. -/
def SpAt (w : World) (L : List Sp) (b : Nat) : Prop := ∀ (i : Nat) (x : Sp), L[i]? = some x → w.cell? ⟨b, i * 3, none⟩ = some (.string x.1) ∧ w.cell? ⟨b, i * 3 + 1, none⟩ = some (.int .i64 x.2.1) ∧ w.cell? ⟨b, i * 3 + 2, none⟩ = some (.int .i64 x.2.2)
theorem spAt_key {w : World} {b : Nat} : ∀ (L : List Sp) (o : Nat), (∀ j u, (L.flatMap spV)[j]? = some u → w.cell? ⟨b, o + j, none⟩ = some u) → ∀ (i : Nat) (x : Sp), L[i]? = some x → w.cell? ⟨b, o + i * 3, none⟩ = some (.string x.1) ∧ w.cell? ⟨b, o + i * 3 + 1, none⟩ = some (.int .i64 x.2.1) ∧ w.cell? ⟨b, o + i * 3 + 2, none⟩ = some (.int .i64 x.2.2)
  | [], _, _, _, _, h => by simp at h
  | y :: r, o, hc, 0, x, h => by
    simp at h
    subst h
    exact ⟨hc 0 _ rfl, hc 1 _ rfl, hc 2 _ rfl⟩
  | y :: r, o, hc, i + 1, x, h => by
    have := spAt_key r (o + 3) (fun j u hu => by rw [← hc (j + 3) u (by simpa [spV] using hu)]; congr 2; omega) i x (by simpa using h)
    refine ⟨by rw [← this.1]; congr 2; omega, by rw [← this.2.1]; congr 2; omega, by rw [← this.2.2]; congr 2; omega⟩
theorem own_sp {w : World} {base : Nat} {v : Value} {L : List Sp} (h : w.ownsRow base 29 3 v L.length (L.flatMap spV)) (hL : 0 < L.length) : ∃ g cap, v = .slice (some ⟨g, 0, none⟩) L.length cap ∧ g < w.heap.size ∧ L.length ≤ cap ∧ cap ≤ maxLen ∧ SpAt w L g := by
  have hlt := h.lt
  have hcap := h.2
  obtain ⟨g, cap, rfl, -, hn⟩ := row_news h hL
  have hadd : ∀ j, (⟨g, 0, none⟩ : Addr).add j = ⟨g, 0 + j, none⟩ := fun j => by unfold Addr.add; split <;> simp_all
  refine ⟨g, cap, rfl, (hlt g rfl).2, ?_, ?_, fun i x hx => ?_⟩
  · rcases hcap with ⟨h, _⟩ | ⟨g', cap', cur, hv, h1, h2, h3, h4, -⟩
    · simp at h
    · injection hv with _ _ hv; subst hv; exact h3
  · rcases hcap with ⟨h, _⟩ | ⟨g', cap', cur, hv, h1, h2, h3, h4, -⟩
    · simp at h
    · injection hv with _ _ hv; subst hv; exact h4
  · simpa using spAt_key (w := w) (b := g) L 0 (fun j u hu => by rw [← hadd]; exact hn j u hu) i x hx

theorem neq_span (k : ByteArray) (a b : Int) (W : World) : Sem.run Tryz.prog (binOp .neq 29 (.agg #[.string k, .int .i64 a, .int .i64 b]) (.agg #[.string k, .int .i64 a, .int .i64 b])) W = .ok (.bool false) W := by
  have h9 : ∀ d x, (Op.equalIn (d + 1) 9 (.string x) (.string x)).run Tryz.prog W = .ok true W := fun d x => by rw [run_equalIn_string W d 9 x x (by kernel_rfl)]; simp
  have h3 : ∀ d x, (Op.equalIn (d + 1) 3 (.int .i64 x) (.int .i64 x)).run Tryz.prog W = .ok true W := fun d x => by rw [run_equalIn_int W d 3 .i64 .i64 x x (by kernel_rfl)]; simp
  rw [run_neq_struct, run_equalIn_struct W 9999 29 _ _ (by kernel_rfl) (by kernel_rfl)]
  simp [Program.fieldsOf, Tryz.underlying29, Op.eqFields, go_sem]
set_option maxRecDepth 100000 in
set_option maxHeartbeats 4000000 in
theorem equal_sp (L : List Sp) (hL : L.length ≤ 4000) (b1 c1 b2 c2 : Nat) (w : World) (h1 : SpAt w L b1) (h2 : SpAt w L b2) (k1 : L.length ≤ c1) (k2 : L.length ≤ c2) (m1 : c1 ≤ maxLen) (m2 : c2 ≤ maxLen) :
    Calls Tryz.prog 11 #[.slice (some ⟨b1, 0, none⟩) L.length c1, .slice (some ⟨b2, 0, none⟩) L.length c2] w fun e w' => e = .returned (.bool true) ∧ Bel w w' := by
  unfold maxLen at m1 m2
  have H1 := hide h1
  have H2 := hide h2
  clear h1 h2
  go_enter Tryz.func11, Tryz.ntmps11
  go_wp2_with fail
  go_loopw [13] (fun c wr => ∃ i : Nat, i ≤ L.length ∧ c = .int .i64 i ∧ Bel w wr) (fun c _ => L.length - (intOf c).toNat)
  case atStart => exact ⟨0, Nat.zero_le _, rfl, Bel.refl _⟩
  case round =>
    obtain ⟨i, hin, rfl, hbr⟩ := hrel
    by_cases hlt : i < L.length
    · obtain ⟨x, hx⟩ : ∃ x, L[i]? = some x := ⟨L[i], by simp⟩
      obtain ⟨a0, a1, a2⟩ := H1.out i x hx
      obtain ⟨d0, d1, d2⟩ := H2.out i x hx
      have e0 := (hbr.at (World.block_lt_of_cell? w ⟨b1, i * 3, none⟩ a0) (i * 3)).trans a0
      have e1 := (hbr.at (World.block_lt_of_cell? w ⟨b1, i * 3, none⟩ a0) (i * 3 + 1)).trans a1
      have e2 := (hbr.at (World.block_lt_of_cell? w ⟨b1, i * 3, none⟩ a0) (i * 3 + 2)).trans a2
      have g0 := (hbr.at (World.block_lt_of_cell? w ⟨b2, i * 3, none⟩ d0) (i * 3)).trans d0
      have g1 := (hbr.at (World.block_lt_of_cell? w ⟨b2, i * 3, none⟩ d0) (i * 3 + 1)).trans d1
      have g2 := (hbr.at (World.block_lt_of_cell? w ⟨b2, i * 3, none⟩ d0) (i * 3 + 2)).trans d2
      clear a0 a1 a2 d0 d1 d2 hx
      have HB := hide hbr
      clear hbr
      go_wp2_with fail
      have hq := neq_span x.1 x.2.1 x.2.2
      refine wp_region_quiet_lit (by kernel_rfl) (by kernel_rfl) ?_
      repeat (any_goals (first | go_big_quiet_step (fail) | quiet_step (fail)))
      refine wpQuiet_nil ?_
      intro _ hw'
      obtain ⟨nq, hw''⟩ := hw'
      subst hw''
      go_wp2_with fail
      go_roundw
      case rel => exact ⟨i + 1, hlt, by go_num, ⟨HB.out.os, HB.out.tape, HB.out.output, HB.out.size, HB.out.block⟩⟩
      case measure => simp [intOf]; omega
    · have hie : i = L.length := by omega
      subst hie
      have HB := hide hbr
      clear hbr
      go_wp2_with fail
      go_ret
      exact ⟨rfl, HB.out⟩
end Go.Proofs.YtkkgfgllfbahlaaGreatFmt

namespace Go.Proofs.YtkkgfgllfbahlaaGreatFmt
open Go Go.RowKit
set_option linter.unusedSimpArgs false

theorem SpAt.bel {w w1 : World} {L : List Sp} {b : Nat} (h : SpAt w L b) (hb : b < w.heap.size) (hw : Bel w w1) : SpAt w1 L b := fun i x hx => ⟨(hw.at hb _).trans (h i x hx).1, (hw.at hb _).trans (h i x hx).2.1, (hw.at hb _).trans (h i x hx).2.2⟩
set_option maxRecDepth 100000 in
set_option maxHeartbeats 4000000 in
theorem law_visits (n : Nd) (stop : ByteArray) (kv : Value) (w : World) (hn : NdK w.heap.size w n kv) (htok : TokTab w) (h0 : 0 < w.heap.size) :
    Calls Tryz.prog 3 #[nodeV n kv, .string stop] w fun e w' => e = .returned (.bool true) ∧ Bel w w' := by
  obtain ⟨a, cap, hv, hcap, hmx⟩ := hn.slice
  subst hv
  have hb : Bel w (w.alloc (.cells #[.string n.kind, .string n.text, .slice a n.kids.length cap] 24)) := (by repeat (first | exact Bel.refl _ | assumption | refine Bel.alloc ?_ _ | refine Bel.drew ?_ | refine Bel.set ?_ (by first | exact Nat.le_refl _ | (simp; done) | (simp; omega)) _))
  obtain ⟨fb, hfb⟩ := fits_tells n (.slice a n.kids.length cap) (w.alloc (.cells #[.string n.kind, .string n.text, .slice a n.kids.length cap] 24)) (hn.later hb)
  have HF := hide hfb
  have HS := hide (fun (W : World) (hW : Bel w W) => shaped_tells n (.slice a n.kids.length cap) W (hn.later hW))
  have HTK := hide htok
  have HN := hide hn
  clear hn hfb htok
  unfold Tells nodeV at HF HS
  unfold nodeV
  go_enter Tryz.func3, Tryz.ntmps3
  go_wp2_with fail
  refine HF.out.mono ?_
  rintro e w1 ⟨rfl, hT1⟩
  have hw1 : Bel w w1 := hb.trans hT1
  have c1 := hT1.at (b := w.heap.size) (by simp)
  have l1 : w.heap.size < w1.heap.size := by have := hT1.le; simp at this; omega
  cases fb
  · go_wp2_with fail
    go_ret
    exact ⟨rfl, hw1⟩
  by_cases hlen : (2147483647 : Int) < stop.size
  · have hd : decide ((2147483647 : Int) < stop.size) = true := by simpa using hlen
    go_wp2_with fail
    go_ret
    exact ⟨rfl, hw1⟩
  have hd : decide ((2147483647 : Int) < stop.size) = false := by simpa using hlen
  go_wp2_with fail
  refine (HS.out w1 hw1).mono ?_
  rintro e w2 ⟨rfl, hT2⟩
  have hw2 : Bel w w2 := hw1.trans hT2
  have c2 := hT2.at (b := w.heap.size) l1
  have l2 : w.heap.size < w2.heap.size := by have := hT2.le; omega
  cases hsh : shaped n
  · go_wp2_with fail
    go_ret
    exact ⟨rfl, hw2⟩
  have hsS : shS n = true := by simp [shaped] at hsh; exact hsh.2
  have hs400 : n.nodes ≤ 400 := few_nodes (by simp [shaped] at hsh; exact hsh.1)
  have hsz := (xt_size n).1
  have HI := hide (fun (W : World) (hW : Bel w W) => visits_impl n hsS hs400 stop (.slice a n.kids.length cap) W (HN.out.later hW) (HTK.out.bel h0 hW) (Nat.lt_of_lt_of_le h0 hW.le))
  have HV := hide (fun (W : World) (hW : Bel w W) => visits_spec stop (xtN n).size n (Nat.le_refl _) (ln_S' hsS) hs400 0 (.slice a n.kids.length cap) W (by omega) (by omega) (HN.out.later hW))
  unfold nodeV at HI HV
  go_wp2_with fail
  have hlen2 : (visX stop (xtN n) 0).length ≤ 4000 := by have := visX_len stop (xtN n) 0; omega
  go_region_held3 (fun w' => w'.cell? ⟨w.heap.size, 0, none⟩ = some (.string n.kind) ∧ w'.cell? ⟨w.heap.size, 1, none⟩ = some (.string n.text) ∧ w'.cell? ⟨w.heap.size, 2, none⟩ = some (.slice a n.kids.length cap)) (go_keep) (first
    | (go_at_call 12
       with_reducible refine Calls.mono (HI.out _ ?_) ?_
       · exact (by repeat (first | exact Bel.refl _ | assumption | refine Bel.alloc ?_ _ | refine Bel.drew ?_ | refine Bel.set ?_ (by first | exact Nat.le_refl _ | (simp; done) | (simp; omega)) _))
       rintro e w3 ⟨a3, k3, rfl, hown3, hT3⟩
       have hw3 : Bel w w3 := Bel.trans (by repeat (first | exact Bel.refl _ | assumption | refine Bel.alloc ?_ _ | refine Bel.drew ?_ | refine Bel.set ?_ (by first | exact Nat.le_refl _ | (simp; done) | (simp; omega)) _)) hT3
       have c3 := hT3.at (b := w.heap.size) (by first | exact l2 | omega | (simp only [World.size_drew]; omega) | (simp; omega))
       obtain ⟨g3, q3, hv3, hl3, hp3, hr3, hs3⟩ := own_sp hown3 (visX_pos _ _ _)
       injection hv3 with f1 f2 f3
       subst f1 f3
       have HO3 := hide hs3
       have l3 : w.heap.size < w3.heap.size := by have := hT3.le; simp only [World.size_drew] at this; omega
       clear hown3 hs3)
    | (go_at_call 13
       with_reducible refine Calls.mono (HV.out _ ?_) ?_
       · exact (by repeat (first | exact Bel.refl _ | assumption | refine Bel.alloc ?_ _ | refine Bel.drew ?_ | refine Bel.set ?_ (by first | exact Nat.le_refl _ | (simp; done) | (simp; omega)) _))
       rintro e w4 ⟨a4, k4, rfl, hown4, hT4⟩
       have hw4 : Bel w w4 := Bel.trans (by repeat (first | exact Bel.refl _ | assumption | refine Bel.alloc ?_ _ | refine Bel.drew ?_ | refine Bel.set ?_ (by first | exact Nat.le_refl _ | (simp; done) | (simp; omega)) _)) hT4
       have c4 := hT4.at (b := w.heap.size) (by first | exact l2 | omega | (simp only [World.size_drew]; omega) | (simp; omega))
       obtain ⟨g4, q4, hv4, hl4, hp4, hr4, hs4⟩ := own_sp hown4 (visX_pos _ _ _)
       injection hv4 with f1 f2 f3
       subst f1 f3
       have hT34 : Bel w3 w4 := Bel.trans (by repeat (first | exact Bel.refl _ | assumption | refine Bel.alloc ?_ _ | refine Bel.drew ?_ | refine Bel.set ?_ (by first | exact Nat.le_refl _ | (simp; done) | (simp; omega)) _)) hT4
       have HO4 := hide hs4
       have l4 : w.heap.size < w4.heap.size := by have := hT4.le; (try simp only [World.size_drew] at this); omega
       clear hown4 hs4)
    | (go_at_call 11
       refine (equal_sp (visX stop (xtN n) 0) hlen2 g3 k3 g4 k4 _ (HO3.out.bel hl3 ?_) (HO4.out.bel hl4 ?_) hp3 hp4 hr3 hr4).mono ?_
       · exact (by repeat (first | exact Bel.refl _ | assumption | refine Bel.alloc ?_ _ | refine Bel.drew ?_ | refine Bel.set ?_ (by first | exact Nat.le_refl _ | (simp; done) | (simp; omega)) _))
       · exact (by repeat (first | exact Bel.refl _ | assumption | refine Bel.alloc ?_ _ | refine Bel.drew ?_ | refine Bel.set ?_ (by first | exact Nat.le_refl _ | (simp; done) | (simp; omega)) _))
       rintro e w5 ⟨rfl, hT5⟩
       have hw5 : Bel w w5 := Bel.trans (by repeat (first | exact Bel.refl _ | assumption | refine Bel.alloc ?_ _ | refine Bel.drew ?_ | refine Bel.set ?_ (by first | exact Nat.le_refl _ | (simp; done) | (simp; omega)) _)) hT5
       have c5 := hT5.at (b := w.heap.size) (by first | exact l4 | omega | (simp only [World.size_drew]; omega) | (simp; omega))))
  all_goals go_wp2_with fail
  all_goals go_ret
  all_goals exact ⟨rfl, (by repeat (first | exact Bel.refl _ | assumption | refine Bel.alloc ?_ _ | refine Bel.drew ?_ | refine Bel.set ?_ (by first | exact Nat.le_refl _ | (simp; done) | (simp; omega)) _))⟩
end Go.Proofs.YtkkgfgllfbahlaaGreatFmt
