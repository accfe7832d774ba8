/- spec.Stacks answers stX; slices.Clone over texts.
slices.EqualFunc over rows of texts; the law on Stacks answers true. -/
import Derived.Test.YtkkgfgllfbahlaaGreatFmtSk
import Derived.Test.YtkkgfgllfbahlaaGreatFmtSv
import Derived.Test.YtkkgfgllfbahlaaGreatFmtSe
import Derived.WalkSpells
import Derived.Test.YtkkgfgllfbahlaaGreatFmtShU
set_option linter.unusedVariables false
set_option linter.unusedSimpArgs false
namespace Go.Proofs.YtkkgfgllfbahlaaGreatFmt
open Go Go.RowKit
set_option linter.unusedSimpArgs false

theorem StrAt_row {w : World} {base n g cap : Nat} {L : List ByteArray} (h : w.ownsRow base 9 1 (.slice (some ⟨g, 0, none⟩) n cap) n (strs L)) : ∀ (i : Nat) (x : ByteArray), L[i]? = some x → w.cell? ⟨g, i, none⟩ = some (.string x) := fun i x hx => cellsOf_row h i _ (by simp [strs, hx])
/-- The texts above lie in a slice. -/
def UpAt (w : World) (up : List ByteArray) (v : Value) : Prop := (v = .slice none 0 0 ∧ up = []) ∨ ∃ g c, v = .slice (some ⟨g, 0, none⟩) up.length c ∧ 0 < up.length ∧ up.length ≤ c ∧ c ≤ maxLen ∧ g < w.heap.size ∧ ∀ (i : Nat) (x : ByteArray), up[i]? = some x → w.cell? ⟨g, i, none⟩ = some (.string x)
theorem UpAt.bel {w w' : World} {up : List ByteArray} {v : Value} (h : UpAt w up v) (hb : Bel w w') : UpAt w' up v := by
  rcases h with h | ⟨g, c, h1, h2, h3, h4, h5, h6⟩
  · exact .inl h
  · exact .inr ⟨g, c, h1, h2, h3, h4, Nat.lt_of_lt_of_le h5 hb.le, fun i x hx => (hb.at h5 i).trans (h6 i x hx)⟩
theorem UpAt.of_row {w : World} {base : Nat} {v : Value} {up : List ByteArray} (h : w.ownsRow base 9 1 v up.length (strs up)) (hp : 0 < up.length) : UpAt w up v := by
  have hlt := h.lt
  rcases h.2 with ⟨_, h0⟩ | ⟨g, cap, cur, rfl, hb, hh, h1, h2, h3, h4⟩
  · omega
  · exact .inr ⟨g, cap, rfl, hp, h1, h2, (hlt g rfl).2, StrAt_row h⟩

set_option maxRecDepth 100000 in
set_option maxHeartbeats 4000000 in
theorem clone_any (up : List ByteArray) (hl : up.length ≤ 4000) (v : Value) (w : World) (h : UpAt w up v) :
    Calls Tryz.prog 34 #[v] w fun e w' => ∃ u, e = .returned u ∧ w'.ownsRow w.heap.size 9 1 u up.length (strs up) ∧ Bel w w' := by
  obtain ⟨i0, hi, hz0, hz1, hz2⟩ := info_parts info_str
  rcases h with ⟨rfl, rfl⟩ | ⟨g, c, rfl, hp, hc, hm, hg, hx⟩
  · have q1 : ∀ W, Sem.run Tryz.prog (binOp .eql 34 (.slice none 0 0) (.slice none 0 0)) W = .ok (.bool true) W := fun W => by kernel_rfl
    go_enter Tryz.func34, Tryz.ntmps34
    go_wp2_with fail
    go_ret
    exact ⟨_, rfl, by simpa [strs] using World.ownsRow_nil _ _ _ _, Bel.refl _⟩
  · have q1 : ∀ W, Sem.run Tryz.prog (binOp .eql 34 (.slice (some ⟨g, 0, none⟩) up.length c) (.slice none 0 0)) W = .ok (.bool false) W := fun W => by kernel_rfl
    unfold maxLen at hm
    have hO0 : (w.alloc (.cells #[] 9)).ownsRow w.heap.size 9 1 (.slice (some ⟨w.heap.size, 0, none⟩) 0 0) 0 [] := ⟨rfl, .inr ⟨w.heap.size, 0, #[], rfl, Nat.le_refl _, heap_alloc_new w (.cells #[] 9), Nat.le_refl _, by decide, rfl, rfl⟩⟩
    have hN : ∀ (j : Nat) (u : Value), (strs up)[j]? = some u → (w.alloc (.cells #[] 9)).cell? ((⟨g, 0, none⟩ : Addr).add j) = some u := fun j u hu => by
      have hadd : (⟨g, 0, none⟩ : Addr).add j = ⟨g, 0 + j, none⟩ := by unfold Addr.add; split <;> simp_all
      rw [strs, List.getElem?_map, Option.map_eq_some_iff] at hu
      obtain ⟨x, h1, rfl⟩ := hu
      rw [hadd, Nat.zero_add, World.cell?_alloc_past _ _ _ hg]
      exact hx j x h1
    have HN := hide hN
    have HO := hide hO0
    clear hx hN hO0
    go_enter Tryz.func34, Tryz.ntmps34
    go_wp2_with (first
      | (at_builtin
         refine wpList_append_lies _ rfl _ _ 34 rfl w.heap.size 9 i0 _ 1 16 under_strs hi hz0 hz1 hz2 rfl (by decide) (.slice (some ⟨w.heap.size, 0, none⟩) 0 0) 0 [] rfl HO.out ⟨g, 0, none⟩ up.length c (strs up) rfl (by simp [strs]) HN.out (strs_one _) hp (by unfold maxLen; omega) (by omega) (by simp) _ rfl ?_
         intro g4 cap4 w4 hown4 hgrow4 hat4 hlt4
         have hb4 : Bel w w4 := Bel.row (show Bel w (w.alloc (.cells #[] 9)) from (by repeat (first | exact Bel.refl _ | assumption | refine Bel.alloc ?_ _ | refine Bel.drew ?_ | refine Bel.set ?_ (by first | exact Nat.le_refl _ | (simp; done) | (simp; omega)) _))) hgrow4 (fun q hq => by simp [Value.ownBlock] at hq; subst hq; exact Nat.le_refl _)
         have HG := hide hown4
         clear hown4 hgrow4 hat4))
    go_ret
    have h := HG.out
    simp only [Nat.zero_add, List.nil_append] at h
    exact ⟨_, by simp, h, hb4⟩

/-- What has been gathered ahead of the i-th part. -/
def stP (stop : ByteArray) (n : Nd) (up : List ByteArray) (i : Nat) : List (List ByteArray) := (up ++ [n.kind]) :: stXs stop (((belowN n).take i).map xtN) (up ++ [n.kind])
theorem stP_snoc (stop : ByteArray) (n : Nd) (up : List ByteArray) (i : Nat) (x : Nd) (hx : (belowN n)[i]? = some x) : stP stop n up (i + 1) = stP stop n up i ++ stX stop (xtN x) (up ++ [n.kind]) := by
  obtain ⟨hi, he⟩ := List.getElem?_eq_some_iff.1 hx
  unfold stP
  rw [List.take_succ_eq_append_getElem hi, he, List.map_append, stXs_append]
  simp [stXs]
theorem stP_len (stop : ByteArray) (n : Nd) (up : List ByteArray) (i : Nat) : (stP stop n up i).length ≤ (xtN n).size := by
  have h1 := stXs_len stop (((belowN n).take i).map xtN) (up ++ [n.kind])
  have h2 := sizeXs_append (((belowN n).take i).map xtN) (((belowN n).drop i).map xtN)
  rw [← List.map_append, List.take_append_drop] at h2
  rw [xtN_below n, XT.size]
  simp only [stP, List.length_cons]
  omega
theorem stX_pos (stop : ByteArray) (x : XT) (up : List ByteArray) : 0 < (stX stop x up).length := by
  cases x; rw [stX]; simp
theorem stX_stop {stop : ByteArray} {n : Nd} {up : List ByteArray} (h : n.kind = stop) : stX stop (xtN n) up = [up ++ [n.kind]] := by rw [xtN_below n, stX, if_pos h]
theorem stX_go {stop : ByteArray} {n : Nd} {up : List ByteArray} (h : ¬ n.kind = stop) : stX stop (xtN n) up = stP stop n up (belowN n).length := by
  rw [xtN_below n, stX, if_neg h, stP, List.take_length]
theorem RowsAt.append {B : Nat} {w : World} {r1 r2 : List (List ByteArray)} {v1 v2 : List Value} (h1 : RowsAt B w r1 v1) (h2 : RowsAt B w r2 v2) : RowsAt B w (r1 ++ r2) (v1 ++ v2) := by
  refine ⟨by simp [h1.1, h2.1], fun i r v hi hv => ?_⟩
  rcases Nat.lt_or_ge i r1.length with hlt | hge
  · rw [List.getElem?_append_left hlt] at hi
    rw [List.getElem?_append_left (by rw [← h1.1]; exact hlt)] at hv
    exact h1.2 i r v hi hv
  · rw [List.getElem?_append_right hge] at hi
    rw [List.getElem?_append_right (by rw [← h1.1]; exact hge), ← h1.1] at hv
    exact h2.2 _ r v hi hv
theorem RowsAt.one {B : Nat} {w : World} {rows : List (List ByteArray)} {vals : List Value} (h : RowsAt B w rows vals) : ∀ u ∈ vals, u.oneCell' = true := by
  intro u hu
  obtain ⟨i, hi⟩ := List.getElem?_of_mem hu
  obtain ⟨r, hr⟩ : ∃ r, rows[i]? = some r := ⟨rows[i]'(by rw [h.1]; exact (List.getElem?_eq_some_iff.1 hi).1), by simp⟩
  obtain ⟨-, -, h3⟩ := h.2 i r u hr hi
  obtain ⟨a, c, rfl⟩ := own_slice h3
  rfl
theorem RowsAt.bel {B : Nat} {w w' : World} {rows : List (List ByteArray)} {vals : List Value} (h : RowsAt B w rows vals) (hb : Bel w w') : RowsAt B w' rows vals := h.keep (grown_bel hb) (fun q hq => by cases hq)

set_option maxRecDepth 100000 in
set_option maxHeartbeats 16000000 in
theorem stacks_spec (stop : ByteArray) : ∀ (m : Nat) (n : Nd), (xtN n).size ≤ m → lnN n = true → n.nodes ≤ 400 → ∀ (up : List ByteArray) (kv av : Value) (w : World), up.length + (xtN n).size ≤ 4000 → NdK w.heap.size w n kv → UpAt w up av →
    Calls Tryz.prog 22 #[nodeV n kv, .string stop, av] w (RowsPost (stX stop (xtN n) up) w) := by
  intro m
  induction m with
  | zero => intro n hm; have := stX_len stop (xtN n) []; have := stX_pos stop (xtN n) []; omega
  | succ m ih =>
    intro n hm hl h400 up kv av w hup hn hav
    have IH := hide ih
    clear ih
    obtain ⟨a, cap, hv, hcap, hmx⟩ := hn.slice
    subst hv
    have hsz := (xt_size n).1
    have hsz1 : 1 ≤ (xtN n).size := by have := stX_len stop (xtN n) []; have := stX_pos stop (xtN n) []; omega
    have HBE := hide (fun W (hb : Bel w W) => below_any n hl h400 (.slice a n.kids.length cap) W w.heap.size hb.le (hn.stay (Nat.le_refl _) (hb.same (Nat.le_refl _))))
    have HLN := hide hl
    have HCL := hide (fun W (hb : Bel w W) => clone_any up (by omega) av W (hav.bel hb))
    clear hn hl hav
    unfold nodeV at HBE ⊢
    go_enter Tryz.func22, Tryz.ntmps22
    go_wp2_with fail
    rename_i K hKK
    have hrest : ∀ (g cap1 : Nat) (cv x15 : Value) (w3 : World), Bel w w3 → w3.ownsRow w.heap.size 9 1 (.slice (some ⟨g, 0, none⟩) (up.length + 1) cap1) (up ++ [n.kind]).length (strs (up ++ [n.kind])) →
        (∀ j, w3.cell? ⟨w.heap.size, j, none⟩ = (w.alloc (.cells #[.string n.kind, .string n.text, .slice a n.kids.length cap] 24)).cell? ⟨w.heap.size, j, none⟩) → w.heap.size < w3.heap.size →
        K ⟨#[.agg #[.string n.kind, .string n.text, .slice a n.kids.length cap], .string stop, av, .pointer (some ⟨w.heap.size, 0, none⟩), undef, undef, .slice none 0 0, .slice (some ⟨g, 0, none⟩) (up.length + 1) cap1, undef, undef, undef, av, cv, .pointer (some ⟨w.heap.size, 0, none⟩), .string n.kind, x15, .slice (some ⟨g, 0, none⟩) (up.length + 1) cap1,
          undef, undef, undef, undef, undef, undef, undef, undef, undef, undef, undef, undef, undef, undef, undef, undef, undef, undef, undef, undef, undef, undef], []⟩ w3 := by
      intro g cap1 cv x15 w3 hb3 hrow hcn hl3
      obtain ⟨i1, hi', hz0', hz1', hz2'⟩ := info_parts info_strs
      have c30 : w3.cell? ⟨w.heap.size, 0, none⟩ = some (.string n.kind) := by rw [hcn 0]; simp [go_sem]
      have c31 : w3.cell? ⟨w.heap.size, 1, none⟩ = some (.string n.text) := by rw [hcn 1]; simp [go_sem]
      have c32 : w3.cell? ⟨w.heap.size, 2, none⟩ = some (.slice a n.kids.length cap) := by rw [hcn 2]; simp [go_sem]
      have z3 := hb3.le
      have hB0 : Bel w (w3.alloc (.cells #[.slice (some ⟨g, 0, none⟩) (up.length + 1) cap1] 34)) := (by repeat (first | exact Bel.refl _ | assumption | refine Bel.alloc ?_ _ | refine Bel.drew ?_ | refine Bel.set ?_ (by first | exact Nat.le_refl _ | (simp; done) | (simp; omega)) _))
      have hBa : Bel w3 (w3.alloc (.cells #[.slice (some ⟨g, 0, none⟩) (up.length + 1) cap1] 34)) := (by repeat (first | exact Bel.refl _ | assumption | refine Bel.alloc ?_ _ | refine Bel.drew ?_ | refine Bel.set ?_ (by first | exact Nat.le_refl _ | (simp; done) | (simp; omega)) _))
      have hown0 : (w3.alloc (.cells #[.slice (some ⟨g, 0, none⟩) (up.length + 1) cap1] 34)).ownsRow w.heap.size 34 1 (.slice (some ⟨w3.heap.size, 0, none⟩) 1 1) 1 [.slice (some ⟨g, 0, none⟩) (up.length + 1) cap1] :=
        ⟨rfl, .inr ⟨w3.heap.size, 1, _, rfl, by omega, heap_alloc_new w3 (.cells #[.slice (some ⟨g, 0, none⟩) (up.length + 1) cap1] 34), Nat.le_refl _, by decide, rfl, rfl⟩⟩
      have hrow0 := ownsRow_bel hrow hBa
      have hrows0 : RowsAt w.heap.size (w3.alloc (.cells #[.slice (some ⟨g, 0, none⟩) (up.length + 1) cap1] 34)) [up ++ [n.kind]] [.slice (some ⟨g, 0, none⟩) (up.length + 1) cap1] := by
        have h : RowsAt w.heap.size (w3.alloc (.cells #[.slice (some ⟨g, 0, none⟩) (up.length + 1) cap1] 34)) [] [] := ⟨rfl, fun i r v h => by simp at h⟩
        exact h.snoc (by simp) (by simp; omega) hrow0
      have H0 := hide (show _ ∧ _ ∧ _ from ⟨hown0, hrow0, hrows0⟩)
      clear hcn hrow hown0 hrow0 hrows0
      cases hks : (n.kind.toList == stop.toList)
      · have HNE := hide (beq_kind_ne hks)
        refine hKK _ _ ?_
        clear hKK
        go_wp2_with fail
        with_reducible refine Calls.mono (HBE.out _ hB0) ?_
        rintro e w1 ⟨sv, vs1, rfl, hown1b, hnd1, hT1⟩
        have hw1 : Bel w w1 := hB0.trans hT1
        have z1 := hw1.le
        have H1 := hide (show _ ∧ _ ∧ _ from ⟨ownsRow_bel H0.out.1 hT1, ownsRow_bel H0.out.2.1 hT1, H0.out.2.2.bel hT1⟩)
        rcases Nat.eq_zero_or_pos (belowN n).length with hz | hz
        · have hsv : sv = .slice none 0 0 ∨ ∃ g c, sv = .slice (some ⟨g, 0, none⟩) 0 c := by
            rcases hown1b.2 with ⟨h, -⟩ | ⟨g, c, cur, h, -⟩
            · exact .inl h
            · rw [hz] at h; exact .inr ⟨g, c, h⟩
          have hPz : stX stop (xtN n) up = [up ++ [n.kind]] := by rw [stX_go HNE.out, hz]; simp [stP, stXs]
          clear hown1b hnd1
          rcases hsv with rfl | ⟨g2, c2, rfl⟩
          all_goals go_wp2_with fail
          all_goals refine wp_loop_rounds 1 ?_
          all_goals rw [rounds_succ]
          all_goals go_wp2_with fail
          all_goals go_ret
          all_goals (
            rw [hPz]
            exact ⟨_, _, _, rfl, H1.out.1, H1.out.2.2, hw1⟩)
        · obtain ⟨g1, cap2, rfl, hg1, hg2, hcp1, hcp2, hget⟩ := own_get hown1b hnd1 hz
          obtain ⟨cur1, hcur⟩ := own_type hown1b (g := g1) rfl
          have HRG := hide hget
          have HCU := hide hcur
          have hbl := below_len n
          unfold maxLen at hcp2
          clear hget hown1b hnd1 hcur
          go_wp2_with fail
          go_loopw [8, 27] (fun v c wr => ∃ i : Nat, i ≤ (belowN n).length ∧ c = .int .i64 i ∧ (∃ vals, wr.ownsRow w.heap.size 34 1 v (stP stop n up i).length vals ∧ RowsAt w.heap.size wr (stP stop n up i) vals) ∧ wr.ownsRow w.heap.size 9 1 (.slice (some ⟨g, 0, none⟩) (up.length + 1) cap1) (up ++ [n.kind]).length (strs (up ++ [n.kind])) ∧ Bel w wr ∧ wr.heap[g1]? = w1.heap[g1]?) (fun _ c _ => (belowN n).length - (intOf c).toNat)
          case atStart => exact ⟨0, Nat.zero_le _, rfl, ⟨_, by simpa [stP, stXs] using H1.out.1, by simpa [stP, stXs] using H1.out.2.2⟩, H1.out.2.1, hw1, rfl⟩
          case round =>
            obtain ⟨i, hin, rfl, ⟨vals, hown, hrows⟩, hrw, hbr, hg1r⟩ := hrel
            obtain ⟨va, vc, rfl⟩ := own_slice hown
            have hpl := stP_len stop n up i
            have zr := hbr.le
            by_cases hlt : i < (belowN n).length
            · obtain ⟨x, hx⟩ : ∃ x, (belowN n)[i]? = some x := ⟨(belowN n)[i], by simp⟩
              obtain ⟨xv, c0, c1, c2, hkn⟩ := HRG.out i x hx
              obtain ⟨xa, xcap, hxv, -, -⟩ := hkn.slice
              subst hxv
              have s0 := (World.cell?_of_block (a := ⟨g1, 0 + 3 * i, none⟩) hg1r).trans c0
              have s1 := (World.cell?_of_block (a := ⟨g1, 0 + 3 * i + 1, none⟩) hg1r).trans c1
              have s2 := (World.cell?_of_block (a := ⟨g1, 0 + 3 * i + 2, none⟩) hg1r).trans c2
              rw [Nat.zero_add, Nat.mul_comm] at s0 s1 s2
              have hxm := List.mem_of_getElem? hx
              have hxs := below_size hxm
              have hxn := below_nodes hxm
              have hsn := stP_snoc stop n up i x hx
              have hpl2 := stP_len stop n up (i + 1)
              rw [hsn, List.length_append] at hpl2
              have HSN := hide hsn
              have hlu : (up ++ [n.kind]).length = up.length + 1 := by simp
              have HX := hide (fun W (hb : Bel w W) (hu : UpAt W (up ++ [n.kind]) (.slice (some ⟨g, 0, none⟩) (up.length + 1) cap1)) => IH.out x (by omega) (lnN_below HLN.out x hxm) (by omega) (up ++ [n.kind]) (.slice xa x.kids.length xcap) (.slice (some ⟨g, 0, none⟩) (up.length + 1) cap1) W (by rw [hlu]; omega) (hkn.stay hb.le (fun k hk => (hb.block k hk).trans (hB0.block k hk).symm)) hu)
              have HO := hide (show _ ∧ _ ∧ _ from ⟨hown, hrows, hrw⟩)
              have HG1 := hide hg1r
              clear hown hrows hrw hg1r c0 c1 c2 hkn hx hsn hxm
              unfold nodeV at HX
              go_wp2_with fail
              have hbA : Bel wr (wr.alloc (.cells #[.string x.kind, .string x.text, .slice xa x.kids.length xcap] 24)) := (by repeat (first | exact Bel.refl _ | assumption | refine Bel.alloc ?_ _ | refine Bel.drew ?_ | refine Bel.set ?_ (by first | exact Nat.le_refl _ | (simp; done) | (simp; omega)) _))
              with_reducible refine Calls.mono (HX.out _ (hbr.trans hbA) (UpAt.of_row (ownsRow_bel HO.out.2.2 hbA) (by simp))) ?_
              rintro e w2 ⟨ra, rc, vals2, rfl, hown2, hrows2, hT2⟩
              have hbX : Bel wr w2 := hbA.trans hT2
              have hw2 : Bel w w2 := hbr.trans hbX
              have zx := hbX.le
              have hpos := stX_pos stop (xtN x) (up ++ [n.kind])
              obtain ⟨g2, cap2', hv2, hl2, hnews2⟩ := row_news hown2 hpos
              injection hv2 with f1 f2 f3
              subst f1 f3
              have HN := hide (show _ ∧ _ ∧ _ from ⟨hl2, hnews2, hrows2⟩)
              have q1 : (stP stop n up i).length + (stX stop (xtN x) (up ++ [n.kind])).length ≤ maxLen := by unfold maxLen; omega
              have q2 : ((stP stop n up i).length + (stX stop (xtN x) (up ++ [n.kind])).length) * 24 ≤ 140737488355328 := by omega
              have q3 : w.heap.size ≤ w2.heap.size := by have := hw2.le; omega
              have HOB := hide (ownsRow_bel HO.out.1 hbX)
              clear hown2 hl2 hnews2 hrows2
              go_wp2_with (first
                | (at_builtin
                   refine wpList_append_lies _ rfl _ _ 41 rfl w.heap.size 34 i1 _ 1 24 under_rows hi' hz0' hz1' hz2' rfl (by decide) (.slice va (stP stop n up i).length vc) (stP stop n up i).length vals rfl HOB.out ⟨g2, 0, none⟩ (stX stop (xtN x) (up ++ [n.kind])).length rc vals2 rfl HN.out.1 HN.out.2.1 HN.out.2.2.one hpos q1 q2 q3 _ rfl ?_
                   intro g4 cap4 w4 hown4 hgrow4 hat4 hlt4
                   have HG := hide (show _ ∧ _ from ⟨hown4, hgrow4⟩)
                   clear hown4 hgrow4 hat4))
              go_wp2_with fail
              go_roundw
              case rel =>
                obtain ⟨hown4, hgrow4⟩ := HG.out
                have hty : ∀ q, (Value.slice va (stP stop n up i).length vc).ownBlock = some q → ∃ cur, w2.heap[q]? = some (.cells cur 34 (0, 0)) := fun q hq => own_type HOB.out hq
                have hkr : ∀ q, (Value.slice va (stP stop n up i).length vc).ownBlock = some q → q < w.heap.size ∨ ∃ cur e, w2.heap[q]? = some (.cells cur e (0, 0)) ∧ e ≠ 9 := fun q hq => .inr (by obtain ⟨cur, hc⟩ := hty q hq; exact ⟨cur, _, hc, by decide⟩)
                have hb4 : Bel w w4 := hw2.row hgrow4 (fun q hq => own_base HOB.out hq)
                have hg12 : w2.heap[g1]? = w1.heap[g1]? := (hbX.block g1 (World.block_lt_of_cell? wr _ s0)).trans HG1.out
                refine ⟨i + 1, hlt, by go_num, ⟨vals ++ vals2, ?_, ?_⟩, ?_, hb4, ?_⟩
                · rw [HSN.out, List.length_append]
                  exact hown4
                · rw [HSN.out]
                  exact ((HO.out.2.1.bel hbX).keep hgrow4 hkr).append ((HN.out.2.2.base (by have := hbr.le; simp; omega)).keep hgrow4 hkr)
                · exact own_keep (ownsRow_bel HO.out.2.2 hbX) hgrow4 fun q h1 h2 => own_ne (ownsRow_bel HO.out.2.2 hbX) HOB.out (by decide) q h1 h2
                · refine (hgrow4.block g1 (Array.getElem?_eq_some_iff.1 (hg12.trans HCU.out)).1 fun e => ?_).trans hg12
                  obtain ⟨cur, hc⟩ := hty g1 e.symm
                  rw [hg12, HCU.out] at hc
                  injection hc with hc
                  injection hc with _ hc
                  revert hc
                  decide
              case measure => simp [intOf]; omega
            · have hie : i = (belowN n).length := by omega
              subst hie
              have HO := hide (show _ ∧ _ from ⟨hown, hrows⟩)
              clear hown hrows hrw hg1r
              have hgo := stX_go (up := up) HNE.out
              generalize hP : stP stop n up (belowN n).length = L at HO hgo ⊢
              go_wp2_with fail
              go_ret
              rw [hgo]
              exact ⟨_, _, vals, rfl, HO.out.1, HO.out.2, hbr⟩
      · have he := hide (beq_kind hks)
        refine hKK _ _ ?_
        clear hKK HBE
        go_wp2_with fail
        go_ret
        rw [stX_stop he.out]
        exact ⟨_, _, _, rfl, H0.out.1, H0.out.2.2, hB0⟩
    have HR := hide hrest
    clear hrest hKK IH HBE
    have hB0 : Bel w ((w.alloc (.cells #[.string n.kind, .string n.text, .slice a n.kids.length cap] 24)).drew) := (by repeat (first | exact Bel.refl _ | assumption | refine Bel.alloc ?_ _ | refine Bel.drew ?_ | refine Bel.set ?_ (by first | exact Nat.le_refl _ | (simp; done) | (simp; omega)) _))
    refine wp_region_noPanic ?_
    refine wp_region_held_drew (S := (fun w' => w'.cell? ⟨w.heap.size, 0, none⟩ = some (.string n.kind))) (by kernel_rfl) ?_ (fun hHeld => ?_)
    · (try dsimp only); go_keep
    refine wpAnyH_take (i := 0) (oi := _) (v := ?_) (by simp only [List.getElem?_toArray, List.getElem?_cons_succ, List.getElem?_cons_zero]; rfl) (by kernel_rfl) (by kernel_rfl) (by kernel_rfl) (fun _ _ _ h => h) (Or.inl ⟨by rfl, ?_⟩) (by assumption) ?_
    rotate_left
    · ((intro w hSw; (try dsimp only at hSw); go_simp) <;> with_reducible rfl)
    try simp only [Act.put, List.setIfInBounds_toArray, List.set_cons_zero, List.set_cons_succ]
    refine wpAnyH_take (i := 2) (oi := _) (v := ?_) (by simp only [List.getElem?_toArray, List.getElem?_cons_succ, List.getElem?_cons_zero]; rfl) (by kernel_rfl) (by kernel_rfl) (by kernel_rfl) (fun _ _ _ h => h) (Or.inl ⟨by rfl, ?_⟩) (by assumption) ?_
    rotate_left
    · ((intro w hSw; (try dsimp only at hSw); go_simp) <;> with_reducible rfl)
    try simp only [Act.put, List.setIfInBounds_toArray, List.set_cons_zero, List.set_cons_succ]
    refine wpAnyH_take (i := 3) (oi := _) (v := ?_) (by simp only [List.getElem?_toArray, List.getElem?_cons_succ, List.getElem?_cons_zero]; rfl) (by kernel_rfl) (by kernel_rfl) (by kernel_rfl) (fun _ _ _ h => h) (Or.inl ⟨by rfl, ?_⟩) (by assumption) ?_
    rotate_left
    · ((intro w hSw; (try dsimp only at hSw); go_simp) <;> with_reducible rfl)
    try simp only [Act.put, List.setIfInBounds_toArray, List.set_cons_zero, List.set_cons_succ]
    refine wpAnyH_ready (rs := [1, 4]) (by kernel_rfl) (by simp) ?_
    refine AllReadyH.cons (o := _) (by simp only [List.getElem?_toArray, List.getElem?_cons_succ, List.getElem?_cons_zero]; rfl) (fun K hK => ?_) ?_
    · go_simp
      with_reducible refine Calls.mono (HCL.out _ hB0) ?_
      rintro e w2 ⟨cv, rfl, hown2, hT2⟩
      have hw2 : Bel w w2 := hB0.trans hT2
      obtain ⟨z2, c2, -, l2, n2, m2⟩ := hT2.factz (b := w.heap.size) (by simp [World.drew])
      simp only [World.size_drew, World.size_alloc] at hown2 z2
      have HO2 := hide (ownsRow_bel hown2 (show Bel w2 (w2.alloc (.cells #[.string n.kind] 9)) from (by repeat (first | exact Bel.refl _ | assumption | refine Bel.alloc ?_ _ | refine Bel.drew ?_ | refine Bel.set ?_ (by first | exact Nat.le_refl _ | (simp; done) | (simp; omega)) _))))
      have HB2 := hide (show Bel w (w2.alloc (.cells #[.string n.kind] 9)) from (by repeat (first | exact Bel.refl _ | assumption | refine Bel.alloc ?_ _ | refine Bel.drew ?_ | refine Bel.set ?_ (by first | exact Nat.le_refl _ | (simp; done) | (simp; omega)) _)))
      clear hown2
      simp only []
      refine hK.out _ _ ?_ (fun hHeld2 => ?_)
      · (try dsimp only); go_keep
      clear hHeld hK K
      have hHeld := hHeld2
      clear hHeld2
      try simp only [Act.put, List.setIfInBounds_toArray, List.set_cons_zero, List.set_cons_succ]
      refine wpAnyH_ready (rs := [4]) (by kernel_rfl) (by simp) ?_
      refine AllReadyH.cons (o := _) (by simp only [List.getElem?_toArray, List.getElem?_cons_succ, List.getElem?_cons_zero]; rfl) (fun K hK => ?_) ?_
      · go_simp
        refine hK.out _ _ ?_ (fun hHeld2 => ?_)
        · (try dsimp only); go_keep
        clear hHeld hK K
        have hHeld := hHeld2
        clear hHeld2
        try simp only [Act.put, List.setIfInBounds_toArray, List.set_cons_zero, List.set_cons_succ]
        refine wpAnyH_ready (rs := [5]) (by kernel_rfl) (by simp) ?_
        refine AllReadyH.cons (o := _) (by simp only [List.getElem?_toArray, List.getElem?_cons_succ, List.getElem?_cons_zero]; rfl) (fun K hK => ?_) ?_
        · refine step_str rfl _ _ rfl (w.heap.size + 1) cv up.length (strs up) rfl HO2.out w2.heap.size n.kind rfl (heap_alloc_new w2 (.cells #[.string n.kind] 9)) (by omega) (by simp; omega) ?_
          intro g4 cap4 w4 hown4 hgrow4 hlt4
          obtain ⟨c4, -⟩ := grown_cell hgrow4 (b := w.heap.size) (by rw [World.size_alloc]; omega) (fun q hq => by have := own_base HO2.out hq; omega)
          have hw4 : Bel w w4 := HB2.out.row hgrow4 (fun q hq => by have := own_base HO2.out hq; omega)
          have hl4 : w.heap.size < w4.heap.size := by have := hgrow4.size; rw [World.size_alloc] at this; omega
          have HO4 := hide (ownsRow_base hown4 (show w.heap.size ≤ w.heap.size + 1 by omega))
          clear hown4 hgrow4
          refine hK.out _ _ ?_ (fun hHeld2 => ?_)
          · (try dsimp only); go_keep
          clear hHeld hK K
          have hHeld := hHeld2
          clear hHeld2
          try simp only [Act.put, List.setIfInBounds_toArray, List.set_cons_zero, List.set_cons_succ]
          refine wpAnyH_take (i := 6) (oi := _) (v := ?_) (by simp only [List.getElem?_toArray, List.getElem?_cons_succ, List.getElem?_cons_zero]; rfl) (by kernel_rfl) (by kernel_rfl) (by kernel_rfl) (fun _ _ _ h => h) (Or.inl ⟨by rfl, ?_⟩) (by assumption) ?_
          rotate_left
          · ((intro w hSw; (try dsimp only at hSw); go_simp) <;> with_reducible rfl)
          try simp only [Act.put, List.setIfInBounds_toArray, List.set_cons_zero, List.set_cons_succ]
          refine wpAnyH_done (by kernel_rfl) ?_ _
          refine NoPanic.normal ?_
          refine HR.out g4 cap4 _ _ w4 hw4 (by rw [strs_snoc, List.length_append]; exact HO4.out) (fun j => ?_) hl4
          rw [c4 j, World.cell?_alloc_past _ _ _ l2, c2 j]
          rfl
        exact AllReadyH.nil
      exact AllReadyH.nil
    refine AllReadyH.cons (o := _) (by simp only [List.getElem?_toArray, List.getElem?_cons_succ, List.getElem?_cons_zero]; rfl) (fun K hK => ?_) ?_
    · go_simp
      refine hK.out _ _ ?_ (fun hHeld2 => ?_)
      · (try dsimp only); go_keep
      clear hHeld hK K
      have hHeld := hHeld2
      clear hHeld2
      try simp only [Act.put, List.setIfInBounds_toArray, List.set_cons_zero, List.set_cons_succ]
      refine wpAnyH_ready (rs := [1]) (by kernel_rfl) (by simp) ?_
      refine AllReadyH.cons (o := _) (by simp only [List.getElem?_toArray, List.getElem?_cons_succ, List.getElem?_cons_zero]; rfl) (fun K hK => ?_) ?_
      · go_simp
        have hB1 : Bel w (((w.alloc (.cells #[.string n.kind, .string n.text, .slice a n.kids.length cap] 24)).alloc (.cells #[.string n.kind] 9)).drew) := (by repeat (first | exact Bel.refl _ | assumption | refine Bel.alloc ?_ _ | refine Bel.drew ?_ | refine Bel.set ?_ (by first | exact Nat.le_refl _ | (simp; done) | (simp; omega)) _))
        with_reducible refine Calls.mono (HCL.out _ hB1) ?_
        rintro e w2 ⟨cv, rfl, hown2, hT2⟩
        obtain ⟨z2, c2, -, l2, n2, m2⟩ := hT2.factz (b := w.heap.size) (by rw [World.size_drew, World.size_alloc, World.size_alloc]; omega)
        have hnw : w2.heap[w.heap.size + 1]? = some (.cells #[.string n.kind] 9) := by
          refine (hT2.block (w.heap.size + 1) (by rw [World.size_drew, World.size_alloc, World.size_alloc]; omega)).trans ?_
          have h := heap_alloc_new (w.alloc (.cells #[.string n.kind, .string n.text, .slice a n.kids.length cap] 24)) (.cells #[.string n.kind] 9)
          rw [World.size_alloc] at h
          exact h
        simp only [World.size_drew, World.size_alloc] at hown2 z2
        have HO2 := hide hown2
        have HB2 := hide (show Bel w w2 from hB1.trans hT2)
        have HNW := hide hnw
        clear hown2 hnw
        simp only []
        refine hK.out _ _ ?_ (fun hHeld2 => ?_)
        · (try dsimp only); go_keep
        clear hHeld hK K
        have hHeld := hHeld2
        clear hHeld2
        try simp only [Act.put, List.setIfInBounds_toArray, List.set_cons_zero, List.set_cons_succ]
        refine wpAnyH_ready (rs := [5]) (by kernel_rfl) (by simp) ?_
        refine AllReadyH.cons (o := _) (by simp only [List.getElem?_toArray, List.getElem?_cons_succ, List.getElem?_cons_zero]; rfl) (fun K hK => ?_) ?_
        · refine step_str rfl _ _ rfl (w.heap.size + 1 + 1) cv up.length (strs up) rfl HO2.out (w.heap.size + 1) n.kind rfl HNW.out (by omega) (by omega) ?_
          intro g4 cap4 w4 hown4 hgrow4 hlt4
          obtain ⟨c4, -⟩ := grown_cell hgrow4 (b := w.heap.size) l2 (fun q hq => by have := own_base HO2.out hq; omega)
          have hw4 : Bel w w4 := HB2.out.row hgrow4 (fun q hq => by have := own_base HO2.out hq; omega)
          have hl4 : w.heap.size < w4.heap.size := by have := hgrow4.size; omega
          have HO4 := hide (ownsRow_base hown4 (show w.heap.size ≤ w.heap.size + 1 + 1 by omega))
          clear hown4 hgrow4
          refine hK.out _ _ ?_ (fun hHeld2 => ?_)
          · (try dsimp only); go_keep
          clear hHeld hK K
          have hHeld := hHeld2
          clear hHeld2
          try simp only [Act.put, List.setIfInBounds_toArray, List.set_cons_zero, List.set_cons_succ]
          refine wpAnyH_take (i := 6) (oi := _) (v := ?_) (by simp only [List.getElem?_toArray, List.getElem?_cons_succ, List.getElem?_cons_zero]; rfl) (by kernel_rfl) (by kernel_rfl) (by kernel_rfl) (fun _ _ _ h => h) (Or.inl ⟨by rfl, ?_⟩) (by assumption) ?_
          rotate_left
          · ((intro w hSw; (try dsimp only at hSw); go_simp) <;> with_reducible rfl)
          try simp only [Act.put, List.setIfInBounds_toArray, List.set_cons_zero, List.set_cons_succ]
          refine wpAnyH_done (by kernel_rfl) ?_ _
          refine NoPanic.normal ?_
          refine HR.out g4 cap4 _ _ w4 hw4 (by rw [strs_snoc, List.length_append]; exact HO4.out) (fun j => ?_) hl4
          rw [c4 j, c2 j]
          exact World.cell?_alloc_past _ _ _ (by rw [World.size_alloc]; omega)
        exact AllReadyH.nil
      exact AllReadyH.nil
    exact AllReadyH.nil
end Go.Proofs.YtkkgfgllfbahlaaGreatFmt

namespace Go.Proofs.YtkkgfgllfbahlaaGreatFmt
open Go Go.RowKit
set_option linter.unusedSimpArgs false

set_option maxRecDepth 100000 in
set_option maxHeartbeats 4000000 in
theorem equal_rows (L : List (List ByteArray)) (hL : L.length ≤ 4000) (hp : 0 < L.length) (B1 B2 : Nat) (v1 v2 : Value) (x1 x2 : List Value) (w : World) (h1 : w.ownsRow B1 34 1 v1 L.length x1) (r1 : RowsAt B1 w L x1) (h2 : w.ownsRow B2 34 1 v2 L.length x2) (r2 : RowsAt B2 w L x2) :
    Calls Tryz.prog 20 #[v1, v2, .func (.func 14) #[] #[]] w fun e w' => e = .returned (.bool true) ∧ Bel w w' := by
  have hc1 := h1.2
  have hc2 := h2.2
  obtain ⟨b1, c1, rfl, -, -⟩ := row_news h1 hp
  obtain ⟨b2, c2, rfl, -, -⟩ := row_news h2 hp
  have k1 : L.length ≤ c1 ∧ c1 ≤ 9223372036854775807 := by
    rcases hc1 with ⟨q, -⟩ | ⟨_, _, _, hv, _, _, h3, h4, _⟩
    · simp at q
    · injection hv with _ _ hv; subst hv; exact ⟨h3, h4⟩
  have k2 : L.length ≤ c2 ∧ c2 ≤ 9223372036854775807 := by
    rcases hc2 with ⟨q, -⟩ | ⟨_, _, _, hv, _, _, h3, h4, _⟩
    · simp at q
    · injection hv with _ _ hv; subst hv; exact ⟨h3, h4⟩
  obtain ⟨k11, k12⟩ := k1
  obtain ⟨k21, k22⟩ := k2
  have H1 := hide (show _ ∧ _ from ⟨h1, r1⟩)
  have H2 := hide (show _ ∧ _ from ⟨h2, r2⟩)
  clear h1 h2 r1 r2 hc1 hc2
  go_enter Tryz.func20, Tryz.ntmps20
  go_wp2_with fail
  go_loopw [17] (fun c wr => ∃ i : Nat, i ≤ L.length ∧ c = .int .i64 i ∧ Bel w wr) (fun c _ => L.length - (intOf c).toNat)
  case atStart => exact ⟨0, Nat.zero_le _, rfl, Bel.refl _⟩
  case round =>
    obtain ⟨i, hin, rfl, hbr⟩ := hrel
    by_cases hlt : i < L.length
    · obtain ⟨r, hr⟩ : ∃ r, L[i]? = some r := ⟨L[i], by simp⟩
      obtain ⟨u1, hu1⟩ : ∃ u, x1[i]? = some u := ⟨x1[i]'(by rw [← H1.out.2.1]; exact hlt), by simp⟩
      obtain ⟨u2, hu2⟩ : ∃ u, x2[i]? = some u := ⟨x2[i]'(by rw [← H2.out.2.1]; exact hlt), by simp⟩
      have a0 := cellsOf_row H1.out.1 i u1 hu1
      have d0 := cellsOf_row H2.out.1 i u2 hu2
      have e0 := (hbr.at (World.block_lt_of_cell? w ⟨b1, i, none⟩ a0) i).trans a0
      have g0 := (hbr.at (World.block_lt_of_cell? w ⟨b2, i, none⟩ d0) i).trans d0
      obtain ⟨p1, p2, p3⟩ := H1.out.2.2 i r u1 hr hu1
      obtain ⟨-, -, p4⟩ := H2.out.2.2 i r u2 hr hu2
      obtain ⟨g1, q1, rfl, -, l1, m1, m2, s1⟩ := own_str p3 p1
      obtain ⟨g2, q2, rfl, -, l2, m3, m4, s2⟩ := own_str p4 p1
      have HX := hide (fun (W : World) (hW : Bel w W) => equal_str r p2 g1 q1 g2 q2 W (s1.bel l1 hW) (s2.bel l2 hW) m1 m3 m2 m4)
      clear a0 d0 hr hu1 hu2 p3 p4 s1 s2 m1 m2 m3 m4
      go_wp2_with fail
      with_reducible refine Calls.mono (HX.out _ hbr) ?_
      rintro e w2 ⟨rfl, hT2⟩
      have hw2 := hbr.trans hT2
      go_wp2_with fail
      go_roundw
      case rel => exact ⟨i + 1, hlt, by go_num, hw2⟩
      case measure => simp [intOf]; omega
    · have hie : i = L.length := by omega
      subst hie
      have HB := hide hbr
      clear hbr
      go_wp2_with fail
      go_ret
      exact ⟨rfl, HB.out⟩

set_option maxRecDepth 100000 in
set_option maxHeartbeats 4000000 in
theorem law_stacks (n : Nd) (stop : ByteArray) (kv : Value) (w : World) (hn : NdK w.heap.size w n kv) (htok : TokTab w) (h0 : 0 < w.heap.size) :
    Calls Tryz.prog 7 #[nodeV n kv, .string stop] w fun e w' => e = .returned (.bool true) ∧ Bel w w' := by
  obtain ⟨a, cap, hv, hcap, hmx⟩ := hn.slice
  subst hv
  have hb : Bel w (w.alloc (.cells #[.string n.kind, .string n.text, .slice a n.kids.length cap] 24)) := (by repeat (first | exact Bel.refl _ | assumption | refine Bel.alloc ?_ _ | refine Bel.drew ?_ | refine Bel.set ?_ (by first | exact Nat.le_refl _ | (simp; done) | (simp; omega)) _))
  obtain ⟨fb, hfb⟩ := fits_tells n (.slice a n.kids.length cap) (w.alloc (.cells #[.string n.kind, .string n.text, .slice a n.kids.length cap] 24)) (hn.later hb)
  have HF := hide hfb
  have HS := hide (fun (W : World) (hW : Bel w W) => shaped_tells n (.slice a n.kids.length cap) W (hn.later hW))
  have HTK := hide htok
  have HN := hide hn
  clear hn hfb htok
  unfold Tells nodeV at HF HS
  unfold nodeV
  go_enter Tryz.func7, Tryz.ntmps7
  go_wp2_with fail
  refine HF.out.mono ?_
  rintro e w1 ⟨rfl, hT1⟩
  have hw1 : Bel w w1 := hb.trans hT1
  have c1 := hT1.at (b := w.heap.size) (by simp)
  have l1 : w.heap.size < w1.heap.size := by have := hT1.le; simp at this; omega
  cases fb
  · go_wp2_with fail
    go_ret
    exact ⟨rfl, hw1⟩
  by_cases hlen : (2147483647 : Int) < stop.size
  · have hd : decide ((2147483647 : Int) < stop.size) = true := by simpa using hlen
    go_wp2_with fail
    go_ret
    exact ⟨rfl, hw1⟩
  have hd : decide ((2147483647 : Int) < stop.size) = false := by simpa using hlen
  go_wp2_with fail
  refine (HS.out w1 hw1).mono ?_
  rintro e w2 ⟨rfl, hT2⟩
  have hw2 : Bel w w2 := hw1.trans hT2
  have c2 := hT2.at (b := w.heap.size) l1
  have l2 : w.heap.size < w2.heap.size := by have := hT2.le; omega
  cases hsh : shaped n
  · go_wp2_with fail
    go_ret
    exact ⟨rfl, hw2⟩
  have hsS : shS n = true := by simp [shaped] at hsh; exact hsh.2
  have hs400 : n.nodes ≤ 400 := few_nodes (by simp [shaped] at hsh; exact hsh.1)
  have hsz := (xt_size n).1
  have hL4 : (stX stop (xtN n) []).length ≤ 4000 := by have := stX_len stop (xtN n) []; omega
  have hLp := stX_pos stop (xtN n) []
  have HI := hide (fun (W : World) (hW : Bel w W) => stacks_impl n hsS hs400 stop (.slice a n.kids.length cap) W (HN.out.later hW) (HTK.out.bel h0 hW) (Nat.lt_of_lt_of_le h0 hW.le))
  have HV := hide (fun (W : World) (hW : Bel w W) => stacks_spec stop (xtN n).size n (Nat.le_refl _) (ln_S' hsS) hs400 [] (.slice a n.kids.length cap) (.slice none 0 0) W (by simp; omega) (HN.out.later hW) (.inl ⟨rfl, rfl⟩))
  unfold nodeV at HI HV
  generalize stX stop (xtN n) [] = L at HI HV hL4 hLp
  go_wp2_with fail
  go_region_held3 (fun w' => w'.cell? ⟨w.heap.size, 0, none⟩ = some (.string n.kind) ∧ w'.cell? ⟨w.heap.size, 1, none⟩ = some (.string n.text) ∧ w'.cell? ⟨w.heap.size, 2, none⟩ = some (.slice a n.kids.length cap)) (go_keep) (first
    | (go_at_call 21
       with_reducible refine Calls.mono (HI.out _ ?_) ?_
       · exact (by repeat (first | exact Bel.refl _ | assumption | refine Bel.alloc ?_ _ | refine Bel.drew ?_ | refine Bel.set ?_ (by first | exact Nat.le_refl _ | (simp; done) | (simp; omega)) _))
       rintro e w3 ⟨a3, k3, x3, rfl, hown3, hrows3, hT3⟩
       have hw3 : Bel w w3 := Bel.trans (by repeat (first | exact Bel.refl _ | assumption | refine Bel.alloc ?_ _ | refine Bel.drew ?_ | refine Bel.set ?_ (by first | exact Nat.le_refl _ | (simp; done) | (simp; omega)) _)) hT3
       have c3 := hT3.at (b := w.heap.size) (by first | exact l2 | omega | (simp only [World.size_drew]; omega) | (simp; omega))
       have HO3 := hide (show _ ∧ _ from ⟨hown3, hrows3⟩)
       have l3 : w.heap.size < w3.heap.size := by have := hT3.le; simp only [World.size_drew] at this; omega
       clear hown3 hrows3)
    | (go_at_call 22
       with_reducible refine Calls.mono (HV.out _ ?_) ?_
       · exact (by repeat (first | exact Bel.refl _ | assumption | refine Bel.alloc ?_ _ | refine Bel.drew ?_ | refine Bel.set ?_ (by first | exact Nat.le_refl _ | (simp; done) | (simp; omega)) _))
       rintro e w4 ⟨a4, k4, x4, rfl, hown4, hrows4, hT4⟩
       have hw4 : Bel w w4 := Bel.trans (by repeat (first | exact Bel.refl _ | assumption | refine Bel.alloc ?_ _ | refine Bel.drew ?_ | refine Bel.set ?_ (by first | exact Nat.le_refl _ | (simp; done) | (simp; omega)) _)) hT4
       have c4 := hT4.at (b := w.heap.size) (by first | exact l2 | omega | (simp only [World.size_drew]; omega) | (simp; omega))
       have hT34 : Bel w3 w4 := Bel.trans (by repeat (first | exact Bel.refl _ | assumption | refine Bel.alloc ?_ _ | refine Bel.drew ?_ | refine Bel.set ?_ (by first | exact Nat.le_refl _ | (simp; done) | (simp; omega)) _)) hT4
       have HO4 := hide (show _ ∧ _ from ⟨hown4, hrows4⟩)
       have l4 : w.heap.size < w4.heap.size := by have := hT4.le; (try simp only [World.size_drew] at this); omega
       clear hown4 hrows4)
    | (go_at_call 20
       refine (equal_rows L hL4 hLp _ _ _ _ _ _ _ (ownsRow_bel HO3.out.1 ?_) (HO3.out.2.bel ?_) (ownsRow_bel HO4.out.1 ?_) (HO4.out.2.bel ?_)).mono ?_
       · exact (by repeat (first | exact Bel.refl _ | assumption | refine Bel.alloc ?_ _ | refine Bel.drew ?_ | refine Bel.set ?_ (by first | exact Nat.le_refl _ | (simp; done) | (simp; omega)) _))
       · exact (by repeat (first | exact Bel.refl _ | assumption | refine Bel.alloc ?_ _ | refine Bel.drew ?_ | refine Bel.set ?_ (by first | exact Nat.le_refl _ | (simp; done) | (simp; omega)) _))
       · exact (by repeat (first | exact Bel.refl _ | assumption | refine Bel.alloc ?_ _ | refine Bel.drew ?_ | refine Bel.set ?_ (by first | exact Nat.le_refl _ | (simp; done) | (simp; omega)) _))
       · exact (by repeat (first | exact Bel.refl _ | assumption | refine Bel.alloc ?_ _ | refine Bel.drew ?_ | refine Bel.set ?_ (by first | exact Nat.le_refl _ | (simp; done) | (simp; omega)) _))
       rintro e w5 ⟨rfl, hT5⟩
       have hw5 : Bel w w5 := Bel.trans (by repeat (first | exact Bel.refl _ | assumption | refine Bel.alloc ?_ _ | refine Bel.drew ?_ | refine Bel.set ?_ (by first | exact Nat.le_refl _ | (simp; done) | (simp; omega)) _)) hT5
       have c5 := hT5.at (b := w.heap.size) (by first | exact l4 | omega | (simp only [World.size_drew]; omega) | (simp; omega))))
  all_goals go_wp2_with fail
  all_goals go_ret
  all_goals exact ⟨rfl, (by repeat (first | exact Bel.refl _ | assumption | refine Bel.alloc ?_ _ | refine Bel.drew ?_ | refine Bel.set ?_ (by first | exact Nat.le_refl _ | (simp; done) | (simp; omega)) _))⟩
end Go.Proofs.YtkkgfgllfbahlaaGreatFmt
