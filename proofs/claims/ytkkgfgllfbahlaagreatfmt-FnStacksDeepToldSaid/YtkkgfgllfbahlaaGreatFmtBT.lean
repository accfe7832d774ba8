/- builder.stmt: the kinds with lists, blocks, clauses, and parts that may not be there (printed by gen_bs.py). -/
import Derived.Test.YtkkgfgllfbahlaaGreatFmtBSO
set_option linter.unusedVariables false
set_option linter.unusedSimpArgs false
namespace Go.Proofs.YtkkgfgllfbahlaaGreatFmt
open Go Go.RowKit
set_option linter.unusedSimpArgs false

set_option maxRecDepth 100000 in
set_option maxHeartbeats 4000000 in
theorem stmt_assign (t : ByteArray) (x y : Nd) (hx : ∀ k, k ∈ x.kids → ExprOK k) (hlx : x.kids.length ≤ 400) (hy : ∀ k, k ∈ y.kids → ExprOK k) (hly : y.kids.length ≤ 400) : StmtOK (.mk ⟨#[97, 115, 115, 105, 103, 110]⟩ t [x, y]) := by
  intro kv w N bb m l hn hs0
  obtain ⟨ka, cap, hv, -, -⟩ := hn.slice
  subst hv
  have hN1 := hs0.hN
  have hN2 := hs0.hb
  have hN3 := hs0.hm
  have z0 := hs0.sz
  have HV := hide (show bS (.mk ⟨#[97, 115, 115, 105, 103, 110]⟩ t [x, y]) l = mkAssign (bEs true x.kids l) t (bEs true y.kids (bEs true x.kids l).2.tail) by simp [bS])
  have Hx := hide hx
  clear hx
  have Hy := hide hy
  clear hy
  have hfk := field_kids
  simp only [Nd.kids_mk, Nd.kind_mk, Nd.text_mk, List.length_cons, List.length_nil] at hn ⊢
  go_enter Tryz.func51, Tryz.ntmps51
  go_wp2_with fail
  go_region_held3 (fun w' => w'.cell? ⟨w.heap.size, 0, none⟩ = some (.string ⟨#[97, 115, 115, 105, 103, 110]⟩) ∧ w'.cell? ⟨w.heap.size, 1, none⟩ = some (.string t) ∧ w'.cell? ⟨w.heap.size, 2, none⟩ = some (.slice ka (0 + 1 + 1) cap)) (go_keep) (first
    | (go_at_call 69
       refine (kid_b (N := N) (m := m) (by repeat (first | with_reducible assumption | with_reducible apply Bst.alloc | with_reducible apply Bst.drew | with_reducible apply Bst.drewN | (with_reducible apply Bst.set1; rotate_left; (first | omega | (simp only [World.size_alloc, World.size_setCell, size_drewN, World.size_drew] <;> omega))))) (NdK.stay (Nat.le_refl _) (But.same (lb := bb) (by repeat (first | with_reducible exact But.refl _ _ | with_reducible refine But.alloc ?_ _ | (with_reducible refine But.set1 ?_ ?_ _ _; rotate_left; (first | omega | (simp only [World.size_alloc, World.size_setCell, size_drewN, World.size_drew] <;> omega))) | with_reducible refine But.drew ?_ | with_reducible refine But.drewN ?_ _ | with_reducible refine But.trans ?_ (by assumption))) (by (first | omega | (simp only [World.size_alloc, World.size_setCell, size_drewN, World.size_drew] <;> omega))) (by (first | omega | (simp only [World.size_alloc, World.size_setCell, size_drewN, World.size_drew] <;> omega)))) _ _ hn) 0 x rfl).mono ?_
       rintro e w1 ⟨kv1, rfl, hk1, hs1, hb1⟩
       have z1 := hb1.le
       try simp only [World.size_alloc, World.size_setCell, size_drewN, World.size_drew] at z1
       obtain ⟨c1_0, f1_0, l1_0, n1_0, m1_0⟩ := hb1.facts (b := w.heap.size) (by (first | omega | (simp only [World.size_alloc, World.size_setCell, size_drewN, World.size_drew] <;> omega))) (by (first | omega | (simp only [World.size_alloc, World.size_setCell, size_drewN, World.size_drew] <;> omega)))
       obtain ⟨sa1, sc1, hv1, -, -⟩ := hk1.slice
       subst hv1
      )
    | (go_at_call 72
       refine (exprs_b x.kids Hx.out hlx _ _ N bb m _ (NdK_iff.1 hk1) (by repeat (first | with_reducible assumption | with_reducible apply Bst.alloc | with_reducible apply Bst.drew | with_reducible apply Bst.drewN | (with_reducible apply Bst.set1; rotate_left; (first | omega | (simp only [World.size_alloc, World.size_setCell, size_drewN, World.size_drew] <;> omega)))))).mono ?_
       rintro e w2 ⟨v2, rfl, ha2, hs2, hb2⟩
       obtain ⟨ea2, en2, ec2, rfl⟩ := ha2.slice
       have z2 := hb2.le
       try simp only [World.size_alloc, World.size_setCell, size_drewN, World.size_drew] at z2
       obtain ⟨c2_0, f2_0, l2_0, n2_0, m2_0⟩ := hb2.facts (b := w.heap.size) (by (first | omega | (simp only [World.size_alloc, World.size_setCell, size_drewN, World.size_drew] <;> omega))) (by (first | omega | (simp only [World.size_alloc, World.size_setCell, size_drewN, World.size_drew] <;> omega)))
      )
    | (go_at_call 70
       refine (next_any (N := N) (m := m) (by repeat (first | with_reducible assumption | with_reducible apply Bst.alloc | with_reducible apply Bst.drew | with_reducible apply Bst.drewN | (with_reducible apply Bst.set1; rotate_left; (first | omega | (simp only [World.size_alloc, World.size_setCell, size_drewN, World.size_drew] <;> omega)))))).mono ?_
       rintro e w3 ⟨rfl, hs3, hb3⟩
       have z3 := hb3.le
       try simp only [World.size_alloc, World.size_setCell, size_drewN, World.size_drew] at z3
       obtain ⟨c3_0, f3_0, l3_0, n3_0, m3_0⟩ := hb3.facts (b := w.heap.size) (by (first | omega | (simp only [World.size_alloc, World.size_setCell, size_drewN, World.size_drew] <;> omega))) (by (first | omega | (simp only [World.size_alloc, World.size_setCell, size_drewN, World.size_drew] <;> omega)))
      )
    | (go_at_call 71
       refine (word_b (N := N) (m := m) (by repeat (first | with_reducible assumption | with_reducible apply Bst.alloc | with_reducible apply Bst.drew | with_reducible apply Bst.drewN | (with_reducible apply Bst.set1; rotate_left; (first | omega | (simp only [World.size_alloc, World.size_setCell, size_drewN, World.size_drew] <;> omega))))) _).mono ?_
       rintro e wz ⟨rfl, rfl⟩
      ))
  go_wp2_with fail
  refine (kid_b (N := N) (m := m) (by repeat (first | with_reducible assumption | with_reducible apply Bst.alloc | with_reducible apply Bst.drew | with_reducible apply Bst.drewN | (with_reducible apply Bst.set1; rotate_left; (first | omega | (simp only [World.size_alloc, World.size_setCell, size_drewN, World.size_drew] <;> omega))))) (NdK.stay (Nat.le_refl _) (But.same (lb := bb) (by repeat (first | with_reducible exact But.refl _ _ | with_reducible refine But.alloc ?_ _ | (with_reducible refine But.set1 ?_ ?_ _ _; rotate_left; (first | omega | (simp only [World.size_alloc, World.size_setCell, size_drewN, World.size_drew] <;> omega))) | with_reducible refine But.drew ?_ | with_reducible refine But.drewN ?_ _ | with_reducible refine But.trans ?_ (by assumption))) (by (first | omega | (simp only [World.size_alloc, World.size_setCell, size_drewN, World.size_drew] <;> omega))) (by (first | omega | (simp only [World.size_alloc, World.size_setCell, size_drewN, World.size_drew] <;> omega)))) _ _ hn) 1 y rfl).mono ?_
  rintro e w4 ⟨kv4, rfl, hk4, hs4, hb4⟩
  have z4 := hb4.le
  try simp only [World.size_alloc, World.size_setCell, size_drewN, World.size_drew] at z4
  obtain ⟨c4_0, f4_0, l4_0, n4_0, m4_0⟩ := hb4.facts (b := w.heap.size) (by (first | omega | (simp only [World.size_alloc, World.size_setCell, size_drewN, World.size_drew] <;> omega))) (by (first | omega | (simp only [World.size_alloc, World.size_setCell, size_drewN, World.size_drew] <;> omega)))
  obtain ⟨c4_1, f4_1, l4_1, n4_1, m4_1⟩ := hb4.facts (b := w3.heap.size) (by (first | omega | (simp only [World.size_alloc, World.size_setCell, size_drewN, World.size_drew] <;> omega))) (by (first | omega | (simp only [World.size_alloc, World.size_setCell, size_drewN, World.size_drew] <;> omega)))
  obtain ⟨sa4, sc4, hv4, -, -⟩ := hk4.slice
  subst hv4
  go_wp2_with fail
  refine (exprs_b y.kids Hy.out hly _ _ N bb m _ (NdK_iff.1 hk4) (by repeat (first | with_reducible assumption | with_reducible apply Bst.alloc | with_reducible apply Bst.drew | with_reducible apply Bst.drewN | (with_reducible apply Bst.set1; rotate_left; (first | omega | (simp only [World.size_alloc, World.size_setCell, size_drewN, World.size_drew] <;> omega)))))).mono ?_
  rintro e w5 ⟨v5, rfl, ha5, hs5, hb5⟩
  obtain ⟨ea5, en5, ec5, rfl⟩ := ha5.slice
  have z5 := hb5.le
  try simp only [World.size_alloc, World.size_setCell, size_drewN, World.size_drew] at z5
  obtain ⟨c5_0, f5_0, l5_0, n5_0, m5_0⟩ := hb5.facts (b := w.heap.size) (by (first | omega | (simp only [World.size_alloc, World.size_setCell, size_drewN, World.size_drew] <;> omega))) (by (first | omega | (simp only [World.size_alloc, World.size_setCell, size_drewN, World.size_drew] <;> omega)))
  obtain ⟨c5_1, f5_1, l5_1, n5_1, m5_1⟩ := hb5.facts (b := w3.heap.size) (by (first | omega | (simp only [World.size_alloc, World.size_setCell, size_drewN, World.size_drew] <;> omega))) (by (first | omega | (simp only [World.size_alloc, World.size_setCell, size_drewN, World.size_drew] <;> omega)))
  go_wp2_with fail
  go_ret
  unfold EPost
  rw [HV.out]
  unfold mkAssign
  dsimp only
  refine ⟨_, rfl, ?_, (by repeat (first | with_reducible assumption | with_reducible apply Bst.alloc | with_reducible apply Bst.drew | with_reducible apply Bst.drewN | (with_reducible apply Bst.set1; rotate_left; (first | omega | (simp only [World.size_alloc, World.size_setCell, size_drewN, World.size_drew] <;> omega))))), (by repeat (first | with_reducible exact But.refl _ _ | with_reducible refine But.alloc ?_ _ | (with_reducible refine But.set1 ?_ ?_ _ _; rotate_left; (first | omega | (simp only [World.size_alloc, World.size_setCell, size_drewN, World.size_drew] <;> omega))) | with_reducible refine But.drew ?_ | with_reducible refine But.drewN ?_ _ | with_reducible refine But.trans ?_ (by assumption)))⟩
  exact At_assign.2 ⟨w3.heap.size, rfl, ⟨by (first | omega | (simp only [World.size_alloc, World.size_setCell, size_drewN, World.size_drew] <;> omega)), by (first | omega | (simp only [World.size_alloc, World.size_setCell, size_drewN, World.size_drew] <;> omega))⟩, _, _, by go_cell, ha2.wide (by repeat (first | with_reducible exact MidI.refl _ _ _ | (with_reducible refine MidI.alloc ?_ ?_ _; rotate_left; (first | omega | (simp only [World.size_alloc, World.size_setCell, size_drewN, World.size_drew] <;> omega))) | (with_reducible refine MidI.set1 ?_ ?_ _ _; rotate_left; (first | omega | (simp only [World.size_alloc, World.size_setCell, size_drewN, World.size_drew] <;> omega))) | with_reducible refine MidI.drew ?_ | with_reducible refine MidI.drewN ?_ _ | (with_reducible refine MidI.but ?_ (by assumption) ?_ ?_; rotate_left; (first | omega | (simp only [World.size_alloc, World.size_setCell, size_drewN, World.size_drew] <;> omega)); (first | omega | (simp only [World.size_alloc, World.size_setCell, size_drewN, World.size_drew] <;> omega))))) (by (first | omega | (simp only [World.size_alloc, World.size_setCell, size_drewN, World.size_drew] <;> omega))) (by (first | omega | (simp only [World.size_alloc, World.size_setCell, size_drewN, World.size_drew] <;> omega))), by go_cell, by go_cell, by go_cell, ha5.wide (by repeat (first | with_reducible exact MidI.refl _ _ _ | (with_reducible refine MidI.alloc ?_ ?_ _; rotate_left; (first | omega | (simp only [World.size_alloc, World.size_setCell, size_drewN, World.size_drew] <;> omega))) | (with_reducible refine MidI.set1 ?_ ?_ _ _; rotate_left; (first | omega | (simp only [World.size_alloc, World.size_setCell, size_drewN, World.size_drew] <;> omega))) | with_reducible refine MidI.drew ?_ | with_reducible refine MidI.drewN ?_ _ | (with_reducible refine MidI.but ?_ (by assumption) ?_ ?_; rotate_left; (first | omega | (simp only [World.size_alloc, World.size_setCell, size_drewN, World.size_drew] <;> omega)); (first | omega | (simp only [World.size_alloc, World.size_setCell, size_drewN, World.size_drew] <;> omega))))) (by (first | omega | (simp only [World.size_alloc, World.size_setCell, size_drewN, World.size_drew] <;> omega))) (by (first | omega | (simp only [World.size_alloc, World.size_setCell, size_drewN, World.size_drew] <;> omega)))⟩

set_option maxRecDepth 100000 in
set_option maxHeartbeats 4000000 in
theorem stmt_branch0 (t : ByteArray) : StmtOK (.mk ⟨#[98, 114, 97, 110, 99, 104]⟩ t []) := by
  intro kv w N bb m l hn hs0
  obtain ⟨ka, cap, hv, -, -⟩ := hn.slice
  subst hv
  have hN1 := hs0.hN
  have hN2 := hs0.hb
  have hN3 := hs0.hm
  have z0 := hs0.sz
  have HV := hide (show bS (.mk ⟨#[98, 114, 97, 110, 99, 104]⟩ t []) l = mkBranch l t none by simp [bS])
  simp only [Nd.kids_mk, Nd.kind_mk, Nd.text_mk, List.length_cons, List.length_nil] at hn ⊢
  go_enter Tryz.func51, Tryz.ntmps51
  go_wp2_with fail
  go_region_held3 (fun w' => w'.cell? ⟨w.heap.size, 0, none⟩ = some (.string ⟨#[98, 114, 97, 110, 99, 104]⟩) ∧ w'.cell? ⟨w.heap.size, 1, none⟩ = some (.string t)) (go_keep) (first
    | (go_at_call 70
       refine (next_any (N := N) (m := m) (by repeat (first | with_reducible assumption | with_reducible apply Bst.alloc | with_reducible apply Bst.drew | with_reducible apply Bst.drewN | (with_reducible apply Bst.set1; rotate_left; (first | omega | (simp only [World.size_alloc, World.size_setCell, size_drewN, World.size_drew] <;> omega)))))).mono ?_
       rintro e w1 ⟨rfl, hs1, hb1⟩
       have z1 := hb1.le
       try simp only [World.size_alloc, World.size_setCell, size_drewN, World.size_drew] at z1
       obtain ⟨c1_0, f1_0, l1_0, n1_0, m1_0⟩ := hb1.facts (b := w.heap.size) (by (first | omega | (simp only [World.size_alloc, World.size_setCell, size_drewN, World.size_drew] <;> omega))) (by (first | omega | (simp only [World.size_alloc, World.size_setCell, size_drewN, World.size_drew] <;> omega)))
      )
    | (go_at_call 71
       refine (word_b (N := N) (m := m) (by repeat (first | with_reducible assumption | with_reducible apply Bst.alloc | with_reducible apply Bst.drew | with_reducible apply Bst.drewN | (with_reducible apply Bst.set1; rotate_left; (first | omega | (simp only [World.size_alloc, World.size_setCell, size_drewN, World.size_drew] <;> omega))))) _).mono ?_
       rintro e wz ⟨rfl, rfl⟩
      ))
  go_wp2_with fail
  go_ret
  unfold EPost
  rw [HV.out]
  unfold mkBranch
  dsimp only
  refine ⟨_, rfl, ?_, (by repeat (first | with_reducible assumption | with_reducible apply Bst.alloc | with_reducible apply Bst.drew | with_reducible apply Bst.drewN | (with_reducible apply Bst.set1; rotate_left; (first | omega | (simp only [World.size_alloc, World.size_setCell, size_drewN, World.size_drew] <;> omega))))), (by repeat (first | with_reducible exact But.refl _ _ | with_reducible refine But.alloc ?_ _ | (with_reducible refine But.set1 ?_ ?_ _ _; rotate_left; (first | omega | (simp only [World.size_alloc, World.size_setCell, size_drewN, World.size_drew] <;> omega))) | with_reducible refine But.drew ?_ | with_reducible refine But.drewN ?_ _ | with_reducible refine But.trans ?_ (by assumption)))⟩
  exact At_branch.2 ⟨w1.heap.size, rfl, ⟨by (first | omega | (simp only [World.size_alloc, World.size_setCell, size_drewN, World.size_drew] <;> omega)), by (first | omega | (simp only [World.size_alloc, World.size_setCell, size_drewN, World.size_drew] <;> omega))⟩, _, by go_cell, by go_cell, by go_cell, AtQ_none.2 rfl⟩

set_option maxRecDepth 100000 in
set_option maxHeartbeats 4000000 in
theorem stmt_branch1 (t : ByteArray) (x : Nd) : StmtOK (.mk ⟨#[98, 114, 97, 110, 99, 104]⟩ t [x]) := by
  intro kv w N bb m l hn hs0
  obtain ⟨ka, cap, hv, -, -⟩ := hn.slice
  subst hv
  have hN1 := hs0.hN
  have hN2 := hs0.hb
  have hN3 := hs0.hm
  have z0 := hs0.sz
  have HV := hide (show bS (.mk ⟨#[98, 114, 97, 110, 99, 104]⟩ t [x]) l = mkBranch l t (some x.text) by simp [bS])
  rcases NdK_iff.1 hn with ⟨hv, he⟩ | ⟨b, o, cap', hv, hc', hm', hr⟩
  · simp at he
  injection hv with e1 e2 e3
  subst e1 e3
  obtain ⟨xv, hbn, d0, d1, d2, hkn⟩ := hr.get (i := 0) (k := x) rfl
  obtain ⟨xa, xcap, hxv, -, -⟩ := hkn.slice
  subst hxv
  simp only [Nat.mul_zero, Nat.add_zero] at d0 d1 d2
  unfold maxLen at hm'
  clear hkn hr
  have hbw : b < w.heap.size := by omega
  have hbn1 : ¬ b = w.heap.size := by omega
  have hbn2 : ¬ w.heap.size = b := by omega
  simp only [Nd.kids_mk, Nd.kind_mk, Nd.text_mk, List.length_cons, List.length_nil] at hn ⊢
  go_enter Tryz.func51, Tryz.ntmps51
  go_wp2_with fail
  go_region_held3 (fun w' => w'.cell? ⟨w.heap.size, 0, none⟩ = some (.string ⟨#[98, 114, 97, 110, 99, 104]⟩) ∧ w'.cell? ⟨w.heap.size, 1, none⟩ = some (.string t)) (go_keep) (first
    | (go_at_call 70
       refine (next_any (N := N) (m := m) (by repeat (first | with_reducible assumption | with_reducible apply Bst.alloc | with_reducible apply Bst.drew | with_reducible apply Bst.drewN | (with_reducible apply Bst.set1; rotate_left; (first | omega | (simp only [World.size_alloc, World.size_setCell, size_drewN, World.size_drew] <;> omega)))))).mono ?_
       rintro e w1 ⟨rfl, hs1, hb1⟩
       have z1 := hb1.le
       try simp only [World.size_alloc, World.size_setCell, size_drewN, World.size_drew] at z1
       obtain ⟨c1_0, f1_0, l1_0, n1_0, m1_0⟩ := hb1.facts (b := w.heap.size) (by (first | omega | (simp only [World.size_alloc, World.size_setCell, size_drewN, World.size_drew] <;> omega))) (by (first | omega | (simp only [World.size_alloc, World.size_setCell, size_drewN, World.size_drew] <;> omega)))
       obtain ⟨c1_1, f1_1, l1_1, n1_1, m1_1⟩ := hb1.facts (b := b) (by (first | omega | (simp only [World.size_alloc, World.size_setCell, size_drewN, World.size_drew] <;> omega))) (by (first | omega | (simp only [World.size_alloc, World.size_setCell, size_drewN, World.size_drew] <;> omega)))
      )
    | (go_at_call 71
       refine (word_b (N := N) (m := m) (by repeat (first | with_reducible assumption | with_reducible apply Bst.alloc | with_reducible apply Bst.drew | with_reducible apply Bst.drewN | (with_reducible apply Bst.set1; rotate_left; (first | omega | (simp only [World.size_alloc, World.size_setCell, size_drewN, World.size_drew] <;> omega))))) _).mono ?_
       rintro e wz ⟨rfl, rfl⟩
      ))
  go_wp2_with fail
  refine (ident_b (N := N) (m := m) (by repeat (first | with_reducible assumption | with_reducible apply Bst.alloc | with_reducible apply Bst.drew | with_reducible apply Bst.drewN | (with_reducible apply Bst.set1; rotate_left; (first | omega | (simp only [World.size_alloc, World.size_setCell, size_drewN, World.size_drew] <;> omega))))) _).mono ?_
  rintro e w2 ⟨p2, rfl, ha2, hs2, hb2⟩
  dsimp only [mkName] at ha2 hs2
  have z2 := hb2.le
  try simp only [World.size_alloc, World.size_setCell, size_drewN, World.size_drew] at z2
  obtain ⟨c2_0, f2_0, l2_0, n2_0, m2_0⟩ := hb2.facts (b := w.heap.size) (by (first | omega | (simp only [World.size_alloc, World.size_setCell, size_drewN, World.size_drew] <;> omega))) (by (first | omega | (simp only [World.size_alloc, World.size_setCell, size_drewN, World.size_drew] <;> omega)))
  obtain ⟨c2_1, f2_1, l2_1, n2_1, m2_1⟩ := hb2.facts (b := w1.heap.size) (by (first | omega | (simp only [World.size_alloc, World.size_setCell, size_drewN, World.size_drew] <;> omega))) (by (first | omega | (simp only [World.size_alloc, World.size_setCell, size_drewN, World.size_drew] <;> omega)))
  go_wp2_with fail
  go_ret
  unfold EPost
  rw [HV.out]
  unfold mkBranch
  dsimp only
  refine ⟨_, rfl, ?_, (by repeat (first | with_reducible assumption | with_reducible apply Bst.alloc | with_reducible apply Bst.drew | with_reducible apply Bst.drewN | (with_reducible apply Bst.set1; rotate_left; (first | omega | (simp only [World.size_alloc, World.size_setCell, size_drewN, World.size_drew] <;> omega))))), (by repeat (first | with_reducible exact But.refl _ _ | with_reducible refine But.alloc ?_ _ | (with_reducible refine But.set1 ?_ ?_ _ _; rotate_left; (first | omega | (simp only [World.size_alloc, World.size_setCell, size_drewN, World.size_drew] <;> omega))) | with_reducible refine But.drew ?_ | with_reducible refine But.drewN ?_ _ | with_reducible refine But.trans ?_ (by assumption)))⟩
  exact At_branch.2 ⟨w1.heap.size, rfl, ⟨by (first | omega | (simp only [World.size_alloc, World.size_setCell, size_drewN, World.size_drew] <;> omega)), by (first | omega | (simp only [World.size_alloc, World.size_setCell, size_drewN, World.size_drew] <;> omega))⟩, _, by go_cell, by go_cell, by go_cell, AtQ_some.2 ⟨_, rfl, ha2.wide (by repeat (first | with_reducible exact MidI.refl _ _ _ | (with_reducible refine MidI.alloc ?_ ?_ _; rotate_left; (first | omega | (simp only [World.size_alloc, World.size_setCell, size_drewN, World.size_drew] <;> omega))) | (with_reducible refine MidI.set1 ?_ ?_ _ _; rotate_left; (first | omega | (simp only [World.size_alloc, World.size_setCell, size_drewN, World.size_drew] <;> omega))) | with_reducible refine MidI.drew ?_ | with_reducible refine MidI.drewN ?_ _ | (with_reducible refine MidI.but ?_ (by assumption) ?_ ?_; rotate_left; (first | omega | (simp only [World.size_alloc, World.size_setCell, size_drewN, World.size_drew] <;> omega)); (first | omega | (simp only [World.size_alloc, World.size_setCell, size_drewN, World.size_drew] <;> omega))))) (by (first | omega | (simp only [World.size_alloc, World.size_setCell, size_drewN, World.size_drew] <;> omega))) (by (first | omega | (simp only [World.size_alloc, World.size_setCell, size_drewN, World.size_drew] <;> omega)))⟩⟩

set_option maxRecDepth 100000 in
set_option maxHeartbeats 4000000 in
theorem stmt_if_none (t : ByteArray) (a : Nd) (b : Nd) (c : Nd) (d : Nd) (ha : StmtO a) (hb : ExprOK b) (hc : BlockOK c) (hm : miss d = true) : StmtOK (.mk ⟨#[105, 102]⟩ t [a, b, c, d]) := by
  intro kv w N bb m l hn hs0
  obtain ⟨ka, cap, hv, -, -⟩ := hn.slice
  subst hv
  have hN1 := hs0.hN
  have hN2 := hs0.hb
  have hN3 := hs0.hm
  have z0 := hs0.sz
  have HV := hide (show bS (.mk ⟨#[105, 102]⟩ t [a, b, c, d]) l = mkIf l (optB a l.tail (bS a l.tail)) (bE b (optB a l.tail (bS a l.tail)).2) (bB c (bE b (optB a l.tail (bS a l.tail)).2).2) (none, (bB c (bE b (optB a l.tail (bS a l.tail)).2).2).2) by simp [bS, optB_miss hm])
  have Ha := hide ha
  clear ha
  have Hb := hide hb
  clear hb
  have Hc := hide hc
  clear hc
  have hkd : (d.kind.toList == [110, 111, 110, 101]) = true := by rw [miss_kind hm]; simp
  have hfq := field_kind
  simp only [Nd.kids_mk, Nd.kind_mk, Nd.text_mk, List.length_cons, List.length_nil] at hn ⊢
  go_enter Tryz.func51, Tryz.ntmps51
  go_wp2_with fail
  refine (next_any (N := N) (m := m) (by repeat (first | with_reducible assumption | with_reducible apply Bst.alloc | with_reducible apply Bst.drew | with_reducible apply Bst.drewN | (with_reducible apply Bst.set1; rotate_left; (first | omega | (simp only [World.size_alloc, World.size_setCell, size_drewN, World.size_drew] <;> omega)))))).mono ?_
  rintro e w1 ⟨rfl, hs1, hb1⟩
  have z1 := hb1.le
  try simp only [World.size_alloc, World.size_setCell, size_drewN, World.size_drew] at z1
  obtain ⟨c1_0, f1_0, l1_0, n1_0, m1_0⟩ := hb1.facts (b := w.heap.size) (by (first | omega | (simp only [World.size_alloc, World.size_setCell, size_drewN, World.size_drew] <;> omega))) (by (first | omega | (simp only [World.size_alloc, World.size_setCell, size_drewN, World.size_drew] <;> omega)))
  go_wp2_with fail
  refine (kid_b (N := N) (m := m) (by repeat (first | with_reducible assumption | with_reducible apply Bst.alloc | with_reducible apply Bst.drew | with_reducible apply Bst.drewN | (with_reducible apply Bst.set1; rotate_left; (first | omega | (simp only [World.size_alloc, World.size_setCell, size_drewN, World.size_drew] <;> omega))))) (NdK.stay (Nat.le_refl _) (But.same (lb := bb) (by repeat (first | with_reducible exact But.refl _ _ | with_reducible refine But.alloc ?_ _ | (with_reducible refine But.set1 ?_ ?_ _ _; rotate_left; (first | omega | (simp only [World.size_alloc, World.size_setCell, size_drewN, World.size_drew] <;> omega))) | with_reducible refine But.drew ?_ | with_reducible refine But.drewN ?_ _ | with_reducible refine But.trans ?_ (by assumption))) (by (first | omega | (simp only [World.size_alloc, World.size_setCell, size_drewN, World.size_drew] <;> omega))) (by (first | omega | (simp only [World.size_alloc, World.size_setCell, size_drewN, World.size_drew] <;> omega)))) _ _ hn) 0 a rfl).mono ?_
  rintro e w2 ⟨kv2, rfl, hk2, hs2, hb2⟩
  have z2 := hb2.le
  try simp only [World.size_alloc, World.size_setCell, size_drewN, World.size_drew] at z2
  obtain ⟨c2_0, f2_0, l2_0, n2_0, m2_0⟩ := hb2.facts (b := w.heap.size) (by (first | omega | (simp only [World.size_alloc, World.size_setCell, size_drewN, World.size_drew] <;> omega))) (by (first | omega | (simp only [World.size_alloc, World.size_setCell, size_drewN, World.size_drew] <;> omega)))
  obtain ⟨c2_1, f2_1, l2_1, n2_1, m2_1⟩ := hb2.facts (b := w1.heap.size) (by (first | omega | (simp only [World.size_alloc, World.size_setCell, size_drewN, World.size_drew] <;> omega))) (by (first | omega | (simp only [World.size_alloc, World.size_setCell, size_drewN, World.size_drew] <;> omega)))
  go_wp2_with fail
  refine (Ha.out _ _ N bb m _ hk2 (by repeat (first | with_reducible assumption | with_reducible apply Bst.alloc | with_reducible apply Bst.drew | with_reducible apply Bst.drewN | (with_reducible apply Bst.set1; rotate_left; (first | omega | (simp only [World.size_alloc, World.size_setCell, size_drewN, World.size_drew] <;> omega)))))).mono ?_
  rintro e w3 ⟨v3, rfl, ho3, ha3, hs3, hb3⟩
  have z3 := hb3.le
  try simp only [World.size_alloc, World.size_setCell, size_drewN, World.size_drew] at z3
  obtain ⟨c3_0, f3_0, l3_0, n3_0, m3_0⟩ := hb3.facts (b := w.heap.size) (by (first | omega | (simp only [World.size_alloc, World.size_setCell, size_drewN, World.size_drew] <;> omega))) (by (first | omega | (simp only [World.size_alloc, World.size_setCell, size_drewN, World.size_drew] <;> omega)))
  obtain ⟨c3_1, f3_1, l3_1, n3_1, m3_1⟩ := hb3.facts (b := w1.heap.size) (by (first | omega | (simp only [World.size_alloc, World.size_setCell, size_drewN, World.size_drew] <;> omega))) (by (first | omega | (simp only [World.size_alloc, World.size_setCell, size_drewN, World.size_drew] <;> omega)))
  go_wp2_with fail
  rw [stores_at ho3 (W := w3) (b := w1.heap.size) (o := 1) .nilIface (by first | go_cell | simp [c3_1]) (by simp [f2_1, f3_1])]
  go_wp2_with fail
  refine (kid_b (N := N) (m := m) (by repeat (first | with_reducible assumption | with_reducible apply Bst.alloc | with_reducible apply Bst.drew | with_reducible apply Bst.drewN | (with_reducible apply Bst.set1; rotate_left; (first | omega | (simp only [World.size_alloc, World.size_setCell, size_drewN, World.size_drew] <;> omega))))) (NdK.stay (Nat.le_refl _) (But.same (lb := bb) (by repeat (first | with_reducible exact But.refl _ _ | with_reducible refine But.alloc ?_ _ | (with_reducible refine But.set1 ?_ ?_ _ _; rotate_left; (first | omega | (simp only [World.size_alloc, World.size_setCell, size_drewN, World.size_drew] <;> omega))) | with_reducible refine But.drew ?_ | with_reducible refine But.drewN ?_ _ | with_reducible refine But.trans ?_ (by assumption))) (by (first | omega | (simp only [World.size_alloc, World.size_setCell, size_drewN, World.size_drew] <;> omega))) (by (first | omega | (simp only [World.size_alloc, World.size_setCell, size_drewN, World.size_drew] <;> omega)))) _ _ hn) 1 b rfl).mono ?_
  rintro e w4 ⟨kv4, rfl, hk4, hs4, hb4⟩
  have z4 := hb4.le
  try simp only [World.size_alloc, World.size_setCell, size_drewN, World.size_drew] at z4
  obtain ⟨c4_0, f4_0, l4_0, n4_0, m4_0⟩ := hb4.facts (b := w.heap.size) (by (first | omega | (simp only [World.size_alloc, World.size_setCell, size_drewN, World.size_drew] <;> omega))) (by (first | omega | (simp only [World.size_alloc, World.size_setCell, size_drewN, World.size_drew] <;> omega)))
  obtain ⟨c4_1, f4_1, l4_1, n4_1, m4_1⟩ := hb4.facts (b := w1.heap.size) (by (first | omega | (simp only [World.size_alloc, World.size_setCell, size_drewN, World.size_drew] <;> omega))) (by (first | omega | (simp only [World.size_alloc, World.size_setCell, size_drewN, World.size_drew] <;> omega)))
  go_wp2_with fail
  refine (Hb.out _ _ N bb m _ hk4 (by repeat (first | with_reducible assumption | with_reducible apply Bst.alloc | with_reducible apply Bst.drew | with_reducible apply Bst.drewN | (with_reducible apply Bst.set1; rotate_left; (first | omega | (simp only [World.size_alloc, World.size_setCell, size_drewN, World.size_drew] <;> omega)))))).mono ?_
  rintro e w5 ⟨v5, rfl, ha5, hs5, hb5⟩
  obtain ⟨p5, rfl, hp5⟩ := ha5.ptr
  have z5 := hb5.le
  try simp only [World.size_alloc, World.size_setCell, size_drewN, World.size_drew] at z5
  obtain ⟨c5_0, f5_0, l5_0, n5_0, m5_0⟩ := hb5.facts (b := w.heap.size) (by (first | omega | (simp only [World.size_alloc, World.size_setCell, size_drewN, World.size_drew] <;> omega))) (by (first | omega | (simp only [World.size_alloc, World.size_setCell, size_drewN, World.size_drew] <;> omega)))
  obtain ⟨c5_1, f5_1, l5_1, n5_1, m5_1⟩ := hb5.facts (b := w1.heap.size) (by (first | omega | (simp only [World.size_alloc, World.size_setCell, size_drewN, World.size_drew] <;> omega))) (by (first | omega | (simp only [World.size_alloc, World.size_setCell, size_drewN, World.size_drew] <;> omega)))
  go_wp2_with fail
  refine (kid_b (N := N) (m := m) (by repeat (first | with_reducible assumption | with_reducible apply Bst.alloc | with_reducible apply Bst.drew | with_reducible apply Bst.drewN | (with_reducible apply Bst.set1; rotate_left; (first | omega | (simp only [World.size_alloc, World.size_setCell, size_drewN, World.size_drew] <;> omega))))) (NdK.stay (Nat.le_refl _) (But.same (lb := bb) (by repeat (first | with_reducible exact But.refl _ _ | with_reducible refine But.alloc ?_ _ | (with_reducible refine But.set1 ?_ ?_ _ _; rotate_left; (first | omega | (simp only [World.size_alloc, World.size_setCell, size_drewN, World.size_drew] <;> omega))) | with_reducible refine But.drew ?_ | with_reducible refine But.drewN ?_ _ | with_reducible refine But.trans ?_ (by assumption))) (by (first | omega | (simp only [World.size_alloc, World.size_setCell, size_drewN, World.size_drew] <;> omega))) (by (first | omega | (simp only [World.size_alloc, World.size_setCell, size_drewN, World.size_drew] <;> omega)))) _ _ hn) 2 c rfl).mono ?_
  rintro e w6 ⟨kv6, rfl, hk6, hs6, hb6⟩
  have z6 := hb6.le
  try simp only [World.size_alloc, World.size_setCell, size_drewN, World.size_drew] at z6
  obtain ⟨c6_0, f6_0, l6_0, n6_0, m6_0⟩ := hb6.facts (b := w.heap.size) (by (first | omega | (simp only [World.size_alloc, World.size_setCell, size_drewN, World.size_drew] <;> omega))) (by (first | omega | (simp only [World.size_alloc, World.size_setCell, size_drewN, World.size_drew] <;> omega)))
  obtain ⟨c6_1, f6_1, l6_1, n6_1, m6_1⟩ := hb6.facts (b := w1.heap.size) (by (first | omega | (simp only [World.size_alloc, World.size_setCell, size_drewN, World.size_drew] <;> omega))) (by (first | omega | (simp only [World.size_alloc, World.size_setCell, size_drewN, World.size_drew] <;> omega)))
  go_wp2_with fail
  refine (Hc.out _ _ N bb m _ hk6 (by repeat (first | with_reducible assumption | with_reducible apply Bst.alloc | with_reducible apply Bst.drew | with_reducible apply Bst.drewN | (with_reducible apply Bst.set1; rotate_left; (first | omega | (simp only [World.size_alloc, World.size_setCell, size_drewN, World.size_drew] <;> omega)))))).mono ?_
  rintro e w7 ⟨p7, rfl, ha7, hs7, hb7⟩
  have z7 := hb7.le
  try simp only [World.size_alloc, World.size_setCell, size_drewN, World.size_drew] at z7
  obtain ⟨c7_0, f7_0, l7_0, n7_0, m7_0⟩ := hb7.facts (b := w.heap.size) (by (first | omega | (simp only [World.size_alloc, World.size_setCell, size_drewN, World.size_drew] <;> omega))) (by (first | omega | (simp only [World.size_alloc, World.size_setCell, size_drewN, World.size_drew] <;> omega)))
  obtain ⟨c7_1, f7_1, l7_1, n7_1, m7_1⟩ := hb7.facts (b := w1.heap.size) (by (first | omega | (simp only [World.size_alloc, World.size_setCell, size_drewN, World.size_drew] <;> omega))) (by (first | omega | (simp only [World.size_alloc, World.size_setCell, size_drewN, World.size_drew] <;> omega)))
  go_wp2_with fail
  refine (kid_b (N := N) (m := m) (by repeat (first | with_reducible assumption | with_reducible apply Bst.alloc | with_reducible apply Bst.drew | with_reducible apply Bst.drewN | (with_reducible apply Bst.set1; rotate_left; (first | omega | (simp only [World.size_alloc, World.size_setCell, size_drewN, World.size_drew] <;> omega))))) (NdK.stay (Nat.le_refl _) (But.same (lb := bb) (by repeat (first | with_reducible exact But.refl _ _ | with_reducible refine But.alloc ?_ _ | (with_reducible refine But.set1 ?_ ?_ _ _; rotate_left; (first | omega | (simp only [World.size_alloc, World.size_setCell, size_drewN, World.size_drew] <;> omega))) | with_reducible refine But.drew ?_ | with_reducible refine But.drewN ?_ _ | with_reducible refine But.trans ?_ (by assumption))) (by (first | omega | (simp only [World.size_alloc, World.size_setCell, size_drewN, World.size_drew] <;> omega))) (by (first | omega | (simp only [World.size_alloc, World.size_setCell, size_drewN, World.size_drew] <;> omega)))) _ _ hn) 3 d rfl).mono ?_
  rintro e w8 ⟨kv8, rfl, hk8, hs8, hb8⟩
  have z8 := hb8.le
  try simp only [World.size_alloc, World.size_setCell, size_drewN, World.size_drew] at z8
  obtain ⟨c8_0, f8_0, l8_0, n8_0, m8_0⟩ := hb8.facts (b := w.heap.size) (by (first | omega | (simp only [World.size_alloc, World.size_setCell, size_drewN, World.size_drew] <;> omega))) (by (first | omega | (simp only [World.size_alloc, World.size_setCell, size_drewN, World.size_drew] <;> omega)))
  obtain ⟨c8_1, f8_1, l8_1, n8_1, m8_1⟩ := hb8.facts (b := w1.heap.size) (by (first | omega | (simp only [World.size_alloc, World.size_setCell, size_drewN, World.size_drew] <;> omega))) (by (first | omega | (simp only [World.size_alloc, World.size_setCell, size_drewN, World.size_drew] <;> omega)))
  obtain ⟨sa8, sc8, hv8, -, -⟩ := hk8.slice
  subst hv8
  go_wp2_with fail
  go_ret
  unfold EPost
  rw [HV.out]
  unfold mkIf
  dsimp only
  refine ⟨_, rfl, ?_, (by repeat (first | with_reducible assumption | with_reducible apply Bst.alloc | with_reducible apply Bst.drew | with_reducible apply Bst.drewN | (with_reducible apply Bst.set1; rotate_left; (first | omega | (simp only [World.size_alloc, World.size_setCell, size_drewN, World.size_drew] <;> omega))))), (by repeat (first | with_reducible exact But.refl _ _ | with_reducible refine But.alloc ?_ _ | (with_reducible refine But.set1 ?_ ?_ _ _; rotate_left; (first | omega | (simp only [World.size_alloc, World.size_setCell, size_drewN, World.size_drew] <;> omega))) | with_reducible refine But.drew ?_ | with_reducible refine But.drewN ?_ _ | with_reducible refine But.trans ?_ (by assumption)))⟩
  exact At_ifS.2 ⟨w1.heap.size, rfl, ⟨by (first | omega | (simp only [World.size_alloc, World.size_setCell, size_drewN, World.size_drew] <;> omega)), by (first | omega | (simp only [World.size_alloc, World.size_setCell, size_drewN, World.size_drew] <;> omega))⟩, _, _, _, _, by go_cell, by go_cell, ha3.wide (by repeat (first | with_reducible exact MidI.refl _ _ _ | (with_reducible refine MidI.alloc ?_ ?_ _; rotate_left; (first | omega | (simp only [World.size_alloc, World.size_setCell, size_drewN, World.size_drew] <;> omega))) | (with_reducible refine MidI.set1 ?_ ?_ _ _; rotate_left; (first | omega | (simp only [World.size_alloc, World.size_setCell, size_drewN, World.size_drew] <;> omega))) | with_reducible refine MidI.drew ?_ | with_reducible refine MidI.drewN ?_ _ | (with_reducible refine MidI.but ?_ (by assumption) ?_ ?_; rotate_left; (first | omega | (simp only [World.size_alloc, World.size_setCell, size_drewN, World.size_drew] <;> omega)); (first | omega | (simp only [World.size_alloc, World.size_setCell, size_drewN, World.size_drew] <;> omega))))) (by (first | omega | (simp only [World.size_alloc, World.size_setCell, size_drewN, World.size_drew] <;> omega))) (by (first | omega | (simp only [World.size_alloc, World.size_setCell, size_drewN, World.size_drew] <;> omega))), by go_cell, ha5.wide (by repeat (first | with_reducible exact MidI.refl _ _ _ | (with_reducible refine MidI.alloc ?_ ?_ _; rotate_left; (first | omega | (simp only [World.size_alloc, World.size_setCell, size_drewN, World.size_drew] <;> omega))) | (with_reducible refine MidI.set1 ?_ ?_ _ _; rotate_left; (first | omega | (simp only [World.size_alloc, World.size_setCell, size_drewN, World.size_drew] <;> omega))) | with_reducible refine MidI.drew ?_ | with_reducible refine MidI.drewN ?_ _ | (with_reducible refine MidI.but ?_ (by assumption) ?_ ?_; rotate_left; (first | omega | (simp only [World.size_alloc, World.size_setCell, size_drewN, World.size_drew] <;> omega)); (first | omega | (simp only [World.size_alloc, World.size_setCell, size_drewN, World.size_drew] <;> omega))))) (by (first | omega | (simp only [World.size_alloc, World.size_setCell, size_drewN, World.size_drew] <;> omega))) (by (first | omega | (simp only [World.size_alloc, World.size_setCell, size_drewN, World.size_drew] <;> omega))), by go_cell, ha7.wide (by repeat (first | with_reducible exact MidI.refl _ _ _ | (with_reducible refine MidI.alloc ?_ ?_ _; rotate_left; (first | omega | (simp only [World.size_alloc, World.size_setCell, size_drewN, World.size_drew] <;> omega))) | (with_reducible refine MidI.set1 ?_ ?_ _ _; rotate_left; (first | omega | (simp only [World.size_alloc, World.size_setCell, size_drewN, World.size_drew] <;> omega))) | with_reducible refine MidI.drew ?_ | with_reducible refine MidI.drewN ?_ _ | (with_reducible refine MidI.but ?_ (by assumption) ?_ ?_; rotate_left; (first | omega | (simp only [World.size_alloc, World.size_setCell, size_drewN, World.size_drew] <;> omega)); (first | omega | (simp only [World.size_alloc, World.size_setCell, size_drewN, World.size_drew] <;> omega))))) (by (first | omega | (simp only [World.size_alloc, World.size_setCell, size_drewN, World.size_drew] <;> omega))) (by (first | omega | (simp only [World.size_alloc, World.size_setCell, size_drewN, World.size_drew] <;> omega))), by go_cell, AtO_none.2 rfl⟩

set_option maxRecDepth 100000 in
set_option maxHeartbeats 4000000 in
theorem stmt_if_else (t : ByteArray) (a : Nd) (b : Nd) (c : Nd) (d : Nd) (ha : StmtO a) (hb : ExprOK b) (hc : BlockOK c) (hd : StmtOK d) (hkd : (d.kind.toList == [110, 111, 110, 101]) = false) : StmtOK (.mk ⟨#[105, 102]⟩ t [a, b, c, d]) := by
  intro kv w N bb m l hn hs0
  obtain ⟨ka, cap, hv, -, -⟩ := hn.slice
  subst hv
  have hN1 := hs0.hN
  have hN2 := hs0.hb
  have hN3 := hs0.hm
  have z0 := hs0.sz
  have HV := hide (show bS (.mk ⟨#[105, 102]⟩ t [a, b, c, d]) l = mkIf l (optB a l.tail (bS a l.tail)) (bE b (optB a l.tail (bS a l.tail)).2) (bB c (bE b (optB a l.tail (bS a l.tail)).2).2) (some (bS d (bB c (bE b (optB a l.tail (bS a l.tail)).2).2).2.tail).1, (bS d (bB c (bE b (optB a l.tail (bS a l.tail)).2).2).2.tail).2) by simp [bS, optB_hit (hit_of_kind hkd)])
  have Ha := hide ha
  clear ha
  have Hb := hide hb
  clear hb
  have Hc := hide hc
  clear hc
  have Hd := hide hd
  clear hd
  have hfq := field_kind
  simp only [Nd.kids_mk, Nd.kind_mk, Nd.text_mk, List.length_cons, List.length_nil] at hn ⊢
  go_enter Tryz.func51, Tryz.ntmps51
  go_wp2_with fail
  refine (next_any (N := N) (m := m) (by repeat (first | with_reducible assumption | with_reducible apply Bst.alloc | with_reducible apply Bst.drew | with_reducible apply Bst.drewN | (with_reducible apply Bst.set1; rotate_left; (first | omega | (simp only [World.size_alloc, World.size_setCell, size_drewN, World.size_drew] <;> omega)))))).mono ?_
  rintro e w1 ⟨rfl, hs1, hb1⟩
  have z1 := hb1.le
  try simp only [World.size_alloc, World.size_setCell, size_drewN, World.size_drew] at z1
  obtain ⟨c1_0, f1_0, l1_0, n1_0, m1_0⟩ := hb1.facts (b := w.heap.size) (by (first | omega | (simp only [World.size_alloc, World.size_setCell, size_drewN, World.size_drew] <;> omega))) (by (first | omega | (simp only [World.size_alloc, World.size_setCell, size_drewN, World.size_drew] <;> omega)))
  go_wp2_with fail
  refine (kid_b (N := N) (m := m) (by repeat (first | with_reducible assumption | with_reducible apply Bst.alloc | with_reducible apply Bst.drew | with_reducible apply Bst.drewN | (with_reducible apply Bst.set1; rotate_left; (first | omega | (simp only [World.size_alloc, World.size_setCell, size_drewN, World.size_drew] <;> omega))))) (NdK.stay (Nat.le_refl _) (But.same (lb := bb) (by repeat (first | with_reducible exact But.refl _ _ | with_reducible refine But.alloc ?_ _ | (with_reducible refine But.set1 ?_ ?_ _ _; rotate_left; (first | omega | (simp only [World.size_alloc, World.size_setCell, size_drewN, World.size_drew] <;> omega))) | with_reducible refine But.drew ?_ | with_reducible refine But.drewN ?_ _ | with_reducible refine But.trans ?_ (by assumption))) (by (first | omega | (simp only [World.size_alloc, World.size_setCell, size_drewN, World.size_drew] <;> omega))) (by (first | omega | (simp only [World.size_alloc, World.size_setCell, size_drewN, World.size_drew] <;> omega)))) _ _ hn) 0 a rfl).mono ?_
  rintro e w2 ⟨kv2, rfl, hk2, hs2, hb2⟩
  have z2 := hb2.le
  try simp only [World.size_alloc, World.size_setCell, size_drewN, World.size_drew] at z2
  obtain ⟨c2_0, f2_0, l2_0, n2_0, m2_0⟩ := hb2.facts (b := w.heap.size) (by (first | omega | (simp only [World.size_alloc, World.size_setCell, size_drewN, World.size_drew] <;> omega))) (by (first | omega | (simp only [World.size_alloc, World.size_setCell, size_drewN, World.size_drew] <;> omega)))
  obtain ⟨c2_1, f2_1, l2_1, n2_1, m2_1⟩ := hb2.facts (b := w1.heap.size) (by (first | omega | (simp only [World.size_alloc, World.size_setCell, size_drewN, World.size_drew] <;> omega))) (by (first | omega | (simp only [World.size_alloc, World.size_setCell, size_drewN, World.size_drew] <;> omega)))
  go_wp2_with fail
  refine (Ha.out _ _ N bb m _ hk2 (by repeat (first | with_reducible assumption | with_reducible apply Bst.alloc | with_reducible apply Bst.drew | with_reducible apply Bst.drewN | (with_reducible apply Bst.set1; rotate_left; (first | omega | (simp only [World.size_alloc, World.size_setCell, size_drewN, World.size_drew] <;> omega)))))).mono ?_
  rintro e w3 ⟨v3, rfl, ho3, ha3, hs3, hb3⟩
  have z3 := hb3.le
  try simp only [World.size_alloc, World.size_setCell, size_drewN, World.size_drew] at z3
  obtain ⟨c3_0, f3_0, l3_0, n3_0, m3_0⟩ := hb3.facts (b := w.heap.size) (by (first | omega | (simp only [World.size_alloc, World.size_setCell, size_drewN, World.size_drew] <;> omega))) (by (first | omega | (simp only [World.size_alloc, World.size_setCell, size_drewN, World.size_drew] <;> omega)))
  obtain ⟨c3_1, f3_1, l3_1, n3_1, m3_1⟩ := hb3.facts (b := w1.heap.size) (by (first | omega | (simp only [World.size_alloc, World.size_setCell, size_drewN, World.size_drew] <;> omega))) (by (first | omega | (simp only [World.size_alloc, World.size_setCell, size_drewN, World.size_drew] <;> omega)))
  go_wp2_with fail
  rw [stores_at ho3 (W := w3) (b := w1.heap.size) (o := 1) .nilIface (by first | go_cell | simp [c3_1]) (by simp [f2_1, f3_1])]
  go_wp2_with fail
  refine (kid_b (N := N) (m := m) (by repeat (first | with_reducible assumption | with_reducible apply Bst.alloc | with_reducible apply Bst.drew | with_reducible apply Bst.drewN | (with_reducible apply Bst.set1; rotate_left; (first | omega | (simp only [World.size_alloc, World.size_setCell, size_drewN, World.size_drew] <;> omega))))) (NdK.stay (Nat.le_refl _) (But.same (lb := bb) (by repeat (first | with_reducible exact But.refl _ _ | with_reducible refine But.alloc ?_ _ | (with_reducible refine But.set1 ?_ ?_ _ _; rotate_left; (first | omega | (simp only [World.size_alloc, World.size_setCell, size_drewN, World.size_drew] <;> omega))) | with_reducible refine But.drew ?_ | with_reducible refine But.drewN ?_ _ | with_reducible refine But.trans ?_ (by assumption))) (by (first | omega | (simp only [World.size_alloc, World.size_setCell, size_drewN, World.size_drew] <;> omega))) (by (first | omega | (simp only [World.size_alloc, World.size_setCell, size_drewN, World.size_drew] <;> omega)))) _ _ hn) 1 b rfl).mono ?_
  rintro e w4 ⟨kv4, rfl, hk4, hs4, hb4⟩
  have z4 := hb4.le
  try simp only [World.size_alloc, World.size_setCell, size_drewN, World.size_drew] at z4
  obtain ⟨c4_0, f4_0, l4_0, n4_0, m4_0⟩ := hb4.facts (b := w.heap.size) (by (first | omega | (simp only [World.size_alloc, World.size_setCell, size_drewN, World.size_drew] <;> omega))) (by (first | omega | (simp only [World.size_alloc, World.size_setCell, size_drewN, World.size_drew] <;> omega)))
  obtain ⟨c4_1, f4_1, l4_1, n4_1, m4_1⟩ := hb4.facts (b := w1.heap.size) (by (first | omega | (simp only [World.size_alloc, World.size_setCell, size_drewN, World.size_drew] <;> omega))) (by (first | omega | (simp only [World.size_alloc, World.size_setCell, size_drewN, World.size_drew] <;> omega)))
  go_wp2_with fail
  refine (Hb.out _ _ N bb m _ hk4 (by repeat (first | with_reducible assumption | with_reducible apply Bst.alloc | with_reducible apply Bst.drew | with_reducible apply Bst.drewN | (with_reducible apply Bst.set1; rotate_left; (first | omega | (simp only [World.size_alloc, World.size_setCell, size_drewN, World.size_drew] <;> omega)))))).mono ?_
  rintro e w5 ⟨v5, rfl, ha5, hs5, hb5⟩
  obtain ⟨p5, rfl, hp5⟩ := ha5.ptr
  have z5 := hb5.le
  try simp only [World.size_alloc, World.size_setCell, size_drewN, World.size_drew] at z5
  obtain ⟨c5_0, f5_0, l5_0, n5_0, m5_0⟩ := hb5.facts (b := w.heap.size) (by (first | omega | (simp only [World.size_alloc, World.size_setCell, size_drewN, World.size_drew] <;> omega))) (by (first | omega | (simp only [World.size_alloc, World.size_setCell, size_drewN, World.size_drew] <;> omega)))
  obtain ⟨c5_1, f5_1, l5_1, n5_1, m5_1⟩ := hb5.facts (b := w1.heap.size) (by (first | omega | (simp only [World.size_alloc, World.size_setCell, size_drewN, World.size_drew] <;> omega))) (by (first | omega | (simp only [World.size_alloc, World.size_setCell, size_drewN, World.size_drew] <;> omega)))
  go_wp2_with fail
  refine (kid_b (N := N) (m := m) (by repeat (first | with_reducible assumption | with_reducible apply Bst.alloc | with_reducible apply Bst.drew | with_reducible apply Bst.drewN | (with_reducible apply Bst.set1; rotate_left; (first | omega | (simp only [World.size_alloc, World.size_setCell, size_drewN, World.size_drew] <;> omega))))) (NdK.stay (Nat.le_refl _) (But.same (lb := bb) (by repeat (first | with_reducible exact But.refl _ _ | with_reducible refine But.alloc ?_ _ | (with_reducible refine But.set1 ?_ ?_ _ _; rotate_left; (first | omega | (simp only [World.size_alloc, World.size_setCell, size_drewN, World.size_drew] <;> omega))) | with_reducible refine But.drew ?_ | with_reducible refine But.drewN ?_ _ | with_reducible refine But.trans ?_ (by assumption))) (by (first | omega | (simp only [World.size_alloc, World.size_setCell, size_drewN, World.size_drew] <;> omega))) (by (first | omega | (simp only [World.size_alloc, World.size_setCell, size_drewN, World.size_drew] <;> omega)))) _ _ hn) 2 c rfl).mono ?_
  rintro e w6 ⟨kv6, rfl, hk6, hs6, hb6⟩
  have z6 := hb6.le
  try simp only [World.size_alloc, World.size_setCell, size_drewN, World.size_drew] at z6
  obtain ⟨c6_0, f6_0, l6_0, n6_0, m6_0⟩ := hb6.facts (b := w.heap.size) (by (first | omega | (simp only [World.size_alloc, World.size_setCell, size_drewN, World.size_drew] <;> omega))) (by (first | omega | (simp only [World.size_alloc, World.size_setCell, size_drewN, World.size_drew] <;> omega)))
  obtain ⟨c6_1, f6_1, l6_1, n6_1, m6_1⟩ := hb6.facts (b := w1.heap.size) (by (first | omega | (simp only [World.size_alloc, World.size_setCell, size_drewN, World.size_drew] <;> omega))) (by (first | omega | (simp only [World.size_alloc, World.size_setCell, size_drewN, World.size_drew] <;> omega)))
  go_wp2_with fail
  refine (Hc.out _ _ N bb m _ hk6 (by repeat (first | with_reducible assumption | with_reducible apply Bst.alloc | with_reducible apply Bst.drew | with_reducible apply Bst.drewN | (with_reducible apply Bst.set1; rotate_left; (first | omega | (simp only [World.size_alloc, World.size_setCell, size_drewN, World.size_drew] <;> omega)))))).mono ?_
  rintro e w7 ⟨p7, rfl, ha7, hs7, hb7⟩
  have z7 := hb7.le
  try simp only [World.size_alloc, World.size_setCell, size_drewN, World.size_drew] at z7
  obtain ⟨c7_0, f7_0, l7_0, n7_0, m7_0⟩ := hb7.facts (b := w.heap.size) (by (first | omega | (simp only [World.size_alloc, World.size_setCell, size_drewN, World.size_drew] <;> omega))) (by (first | omega | (simp only [World.size_alloc, World.size_setCell, size_drewN, World.size_drew] <;> omega)))
  obtain ⟨c7_1, f7_1, l7_1, n7_1, m7_1⟩ := hb7.facts (b := w1.heap.size) (by (first | omega | (simp only [World.size_alloc, World.size_setCell, size_drewN, World.size_drew] <;> omega))) (by (first | omega | (simp only [World.size_alloc, World.size_setCell, size_drewN, World.size_drew] <;> omega)))
  go_wp2_with fail
  refine (kid_b (N := N) (m := m) (by repeat (first | with_reducible assumption | with_reducible apply Bst.alloc | with_reducible apply Bst.drew | with_reducible apply Bst.drewN | (with_reducible apply Bst.set1; rotate_left; (first | omega | (simp only [World.size_alloc, World.size_setCell, size_drewN, World.size_drew] <;> omega))))) (NdK.stay (Nat.le_refl _) (But.same (lb := bb) (by repeat (first | with_reducible exact But.refl _ _ | with_reducible refine But.alloc ?_ _ | (with_reducible refine But.set1 ?_ ?_ _ _; rotate_left; (first | omega | (simp only [World.size_alloc, World.size_setCell, size_drewN, World.size_drew] <;> omega))) | with_reducible refine But.drew ?_ | with_reducible refine But.drewN ?_ _ | with_reducible refine But.trans ?_ (by assumption))) (by (first | omega | (simp only [World.size_alloc, World.size_setCell, size_drewN, World.size_drew] <;> omega))) (by (first | omega | (simp only [World.size_alloc, World.size_setCell, size_drewN, World.size_drew] <;> omega)))) _ _ hn) 3 d rfl).mono ?_
  rintro e w8 ⟨kv8, rfl, hk8, hs8, hb8⟩
  have z8 := hb8.le
  try simp only [World.size_alloc, World.size_setCell, size_drewN, World.size_drew] at z8
  obtain ⟨c8_0, f8_0, l8_0, n8_0, m8_0⟩ := hb8.facts (b := w.heap.size) (by (first | omega | (simp only [World.size_alloc, World.size_setCell, size_drewN, World.size_drew] <;> omega))) (by (first | omega | (simp only [World.size_alloc, World.size_setCell, size_drewN, World.size_drew] <;> omega)))
  obtain ⟨c8_1, f8_1, l8_1, n8_1, m8_1⟩ := hb8.facts (b := w1.heap.size) (by (first | omega | (simp only [World.size_alloc, World.size_setCell, size_drewN, World.size_drew] <;> omega))) (by (first | omega | (simp only [World.size_alloc, World.size_setCell, size_drewN, World.size_drew] <;> omega)))
  obtain ⟨sa8, sc8, hv8, -, -⟩ := hk8.slice
  subst hv8
  go_wp2_with fail
  refine (next_any (N := N) (m := m) (by repeat (first | with_reducible assumption | with_reducible apply Bst.alloc | with_reducible apply Bst.drew | with_reducible apply Bst.drewN | (with_reducible apply Bst.set1; rotate_left; (first | omega | (simp only [World.size_alloc, World.size_setCell, size_drewN, World.size_drew] <;> omega)))))).mono ?_
  rintro e w9 ⟨rfl, hs9, hb9⟩
  have z9 := hb9.le
  try simp only [World.size_alloc, World.size_setCell, size_drewN, World.size_drew] at z9
  obtain ⟨c9_0, f9_0, l9_0, n9_0, m9_0⟩ := hb9.facts (b := w.heap.size) (by (first | omega | (simp only [World.size_alloc, World.size_setCell, size_drewN, World.size_drew] <;> omega))) (by (first | omega | (simp only [World.size_alloc, World.size_setCell, size_drewN, World.size_drew] <;> omega)))
  obtain ⟨c9_1, f9_1, l9_1, n9_1, m9_1⟩ := hb9.facts (b := w1.heap.size) (by (first | omega | (simp only [World.size_alloc, World.size_setCell, size_drewN, World.size_drew] <;> omega))) (by (first | omega | (simp only [World.size_alloc, World.size_setCell, size_drewN, World.size_drew] <;> omega)))
  go_wp2_with fail
  refine (kid_b (N := N) (m := m) (by repeat (first | with_reducible assumption | with_reducible apply Bst.alloc | with_reducible apply Bst.drew | with_reducible apply Bst.drewN | (with_reducible apply Bst.set1; rotate_left; (first | omega | (simp only [World.size_alloc, World.size_setCell, size_drewN, World.size_drew] <;> omega))))) (NdK.stay (Nat.le_refl _) (But.same (lb := bb) (by repeat (first | with_reducible exact But.refl _ _ | with_reducible refine But.alloc ?_ _ | (with_reducible refine But.set1 ?_ ?_ _ _; rotate_left; (first | omega | (simp only [World.size_alloc, World.size_setCell, size_drewN, World.size_drew] <;> omega))) | with_reducible refine But.drew ?_ | with_reducible refine But.drewN ?_ _ | with_reducible refine But.trans ?_ (by assumption))) (by (first | omega | (simp only [World.size_alloc, World.size_setCell, size_drewN, World.size_drew] <;> omega))) (by (first | omega | (simp only [World.size_alloc, World.size_setCell, size_drewN, World.size_drew] <;> omega)))) _ _ hn) 3 d rfl).mono ?_
  rintro e w10 ⟨kv10, rfl, hk10, hs10, hb10⟩
  have z10 := hb10.le
  try simp only [World.size_alloc, World.size_setCell, size_drewN, World.size_drew] at z10
  obtain ⟨c10_0, f10_0, l10_0, n10_0, m10_0⟩ := hb10.facts (b := w.heap.size) (by (first | omega | (simp only [World.size_alloc, World.size_setCell, size_drewN, World.size_drew] <;> omega))) (by (first | omega | (simp only [World.size_alloc, World.size_setCell, size_drewN, World.size_drew] <;> omega)))
  obtain ⟨c10_1, f10_1, l10_1, n10_1, m10_1⟩ := hb10.facts (b := w1.heap.size) (by (first | omega | (simp only [World.size_alloc, World.size_setCell, size_drewN, World.size_drew] <;> omega))) (by (first | omega | (simp only [World.size_alloc, World.size_setCell, size_drewN, World.size_drew] <;> omega)))
  go_wp2_with fail
  refine (Hd.out _ _ N bb m _ hk10 (by repeat (first | with_reducible assumption | with_reducible apply Bst.alloc | with_reducible apply Bst.drew | with_reducible apply Bst.drewN | (with_reducible apply Bst.set1; rotate_left; (first | omega | (simp only [World.size_alloc, World.size_setCell, size_drewN, World.size_drew] <;> omega)))))).mono ?_
  rintro e w11 ⟨v11, rfl, ha11, hs11, hb11⟩
  obtain ⟨p11, rfl, hp11⟩ := ha11.ptr
  have z11 := hb11.le
  try simp only [World.size_alloc, World.size_setCell, size_drewN, World.size_drew] at z11
  obtain ⟨c11_0, f11_0, l11_0, n11_0, m11_0⟩ := hb11.facts (b := w.heap.size) (by (first | omega | (simp only [World.size_alloc, World.size_setCell, size_drewN, World.size_drew] <;> omega))) (by (first | omega | (simp only [World.size_alloc, World.size_setCell, size_drewN, World.size_drew] <;> omega)))
  obtain ⟨c11_1, f11_1, l11_1, n11_1, m11_1⟩ := hb11.facts (b := w1.heap.size) (by (first | omega | (simp only [World.size_alloc, World.size_setCell, size_drewN, World.size_drew] <;> omega))) (by (first | omega | (simp only [World.size_alloc, World.size_setCell, size_drewN, World.size_drew] <;> omega)))
  go_wp2_with fail
  go_ret
  unfold EPost
  rw [HV.out]
  unfold mkIf
  dsimp only
  refine ⟨_, rfl, ?_, (by repeat (first | with_reducible assumption | with_reducible apply Bst.alloc | with_reducible apply Bst.drew | with_reducible apply Bst.drewN | (with_reducible apply Bst.set1; rotate_left; (first | omega | (simp only [World.size_alloc, World.size_setCell, size_drewN, World.size_drew] <;> omega))))), (by repeat (first | with_reducible exact But.refl _ _ | with_reducible refine But.alloc ?_ _ | (with_reducible refine But.set1 ?_ ?_ _ _; rotate_left; (first | omega | (simp only [World.size_alloc, World.size_setCell, size_drewN, World.size_drew] <;> omega))) | with_reducible refine But.drew ?_ | with_reducible refine But.drewN ?_ _ | with_reducible refine But.trans ?_ (by assumption)))⟩
  exact At_ifS.2 ⟨w1.heap.size, rfl, ⟨by (first | omega | (simp only [World.size_alloc, World.size_setCell, size_drewN, World.size_drew] <;> omega)), by (first | omega | (simp only [World.size_alloc, World.size_setCell, size_drewN, World.size_drew] <;> omega))⟩, _, _, _, _, by go_cell, by go_cell, ha3.wide (by repeat (first | with_reducible exact MidI.refl _ _ _ | (with_reducible refine MidI.alloc ?_ ?_ _; rotate_left; (first | omega | (simp only [World.size_alloc, World.size_setCell, size_drewN, World.size_drew] <;> omega))) | (with_reducible refine MidI.set1 ?_ ?_ _ _; rotate_left; (first | omega | (simp only [World.size_alloc, World.size_setCell, size_drewN, World.size_drew] <;> omega))) | with_reducible refine MidI.drew ?_ | with_reducible refine MidI.drewN ?_ _ | (with_reducible refine MidI.but ?_ (by assumption) ?_ ?_; rotate_left; (first | omega | (simp only [World.size_alloc, World.size_setCell, size_drewN, World.size_drew] <;> omega)); (first | omega | (simp only [World.size_alloc, World.size_setCell, size_drewN, World.size_drew] <;> omega))))) (by (first | omega | (simp only [World.size_alloc, World.size_setCell, size_drewN, World.size_drew] <;> omega))) (by (first | omega | (simp only [World.size_alloc, World.size_setCell, size_drewN, World.size_drew] <;> omega))), by go_cell, ha5.wide (by repeat (first | with_reducible exact MidI.refl _ _ _ | (with_reducible refine MidI.alloc ?_ ?_ _; rotate_left; (first | omega | (simp only [World.size_alloc, World.size_setCell, size_drewN, World.size_drew] <;> omega))) | (with_reducible refine MidI.set1 ?_ ?_ _ _; rotate_left; (first | omega | (simp only [World.size_alloc, World.size_setCell, size_drewN, World.size_drew] <;> omega))) | with_reducible refine MidI.drew ?_ | with_reducible refine MidI.drewN ?_ _ | (with_reducible refine MidI.but ?_ (by assumption) ?_ ?_; rotate_left; (first | omega | (simp only [World.size_alloc, World.size_setCell, size_drewN, World.size_drew] <;> omega)); (first | omega | (simp only [World.size_alloc, World.size_setCell, size_drewN, World.size_drew] <;> omega))))) (by (first | omega | (simp only [World.size_alloc, World.size_setCell, size_drewN, World.size_drew] <;> omega))) (by (first | omega | (simp only [World.size_alloc, World.size_setCell, size_drewN, World.size_drew] <;> omega))), by go_cell, ha7.wide (by repeat (first | with_reducible exact MidI.refl _ _ _ | (with_reducible refine MidI.alloc ?_ ?_ _; rotate_left; (first | omega | (simp only [World.size_alloc, World.size_setCell, size_drewN, World.size_drew] <;> omega))) | (with_reducible refine MidI.set1 ?_ ?_ _ _; rotate_left; (first | omega | (simp only [World.size_alloc, World.size_setCell, size_drewN, World.size_drew] <;> omega))) | with_reducible refine MidI.drew ?_ | with_reducible refine MidI.drewN ?_ _ | (with_reducible refine MidI.but ?_ (by assumption) ?_ ?_; rotate_left; (first | omega | (simp only [World.size_alloc, World.size_setCell, size_drewN, World.size_drew] <;> omega)); (first | omega | (simp only [World.size_alloc, World.size_setCell, size_drewN, World.size_drew] <;> omega))))) (by (first | omega | (simp only [World.size_alloc, World.size_setCell, size_drewN, World.size_drew] <;> omega))) (by (first | omega | (simp only [World.size_alloc, World.size_setCell, size_drewN, World.size_drew] <;> omega))), by go_cell, AtO_some.2 (ha11.wide (by repeat (first | with_reducible exact MidI.refl _ _ _ | (with_reducible refine MidI.alloc ?_ ?_ _; rotate_left; (first | omega | (simp only [World.size_alloc, World.size_setCell, size_drewN, World.size_drew] <;> omega))) | (with_reducible refine MidI.set1 ?_ ?_ _ _; rotate_left; (first | omega | (simp only [World.size_alloc, World.size_setCell, size_drewN, World.size_drew] <;> omega))) | with_reducible refine MidI.drew ?_ | with_reducible refine MidI.drewN ?_ _ | (with_reducible refine MidI.but ?_ (by assumption) ?_ ?_; rotate_left; (first | omega | (simp only [World.size_alloc, World.size_setCell, size_drewN, World.size_drew] <;> omega)); (first | omega | (simp only [World.size_alloc, World.size_setCell, size_drewN, World.size_drew] <;> omega))))) (by (first | omega | (simp only [World.size_alloc, World.size_setCell, size_drewN, World.size_drew] <;> omega))) (by (first | omega | (simp only [World.size_alloc, World.size_setCell, size_drewN, World.size_drew] <;> omega))))⟩

set_option maxRecDepth 100000 in
set_option maxHeartbeats 4000000 in
theorem stmt_for (t : ByteArray) (a : Nd) (b : Nd) (c : Nd) (d : Nd) (ha : StmtO a) (hb : ExprO b) (hc : StmtO c) (hd : BlockOK d) : StmtOK (.mk ⟨#[102, 111, 114]⟩ t [a, b, c, d]) := by
  intro kv w N bb m l hn hs0
  obtain ⟨ka, cap, hv, -, -⟩ := hn.slice
  subst hv
  have hN1 := hs0.hN
  have hN2 := hs0.hb
  have hN3 := hs0.hm
  have z0 := hs0.sz
  have HV := hide (show bS (.mk ⟨#[102, 111, 114]⟩ t [a, b, c, d]) l = mkFor l (optB a l.tail (bS a l.tail)) (bEO b (optB a l.tail (bS a l.tail)).2) (optB c (bEO b (optB a l.tail (bS a l.tail)).2).2 (bS c (bEO b (optB a l.tail (bS a l.tail)).2).2)) (bB d (optB c (bEO b (optB a l.tail (bS a l.tail)).2).2 (bS c (bEO b (optB a l.tail (bS a l.tail)).2).2)).2) by simp [bS])
  have Ha := hide ha
  clear ha
  have Hb := hide hb
  clear hb
  have Hc := hide hc
  clear hc
  have Hd := hide hd
  clear hd
  simp only [Nd.kids_mk, Nd.kind_mk, Nd.text_mk, List.length_cons, List.length_nil] at hn ⊢
  go_enter Tryz.func51, Tryz.ntmps51
  go_wp2_with fail
  refine (next_any (N := N) (m := m) (by repeat (first | with_reducible assumption | with_reducible apply Bst.alloc | with_reducible apply Bst.drew | with_reducible apply Bst.drewN | (with_reducible apply Bst.set1; rotate_left; (first | omega | (simp only [World.size_alloc, World.size_setCell, size_drewN, World.size_drew] <;> omega)))))).mono ?_
  rintro e w1 ⟨rfl, hs1, hb1⟩
  have z1 := hb1.le
  try simp only [World.size_alloc, World.size_setCell, size_drewN, World.size_drew] at z1
  obtain ⟨c1_0, f1_0, l1_0, n1_0, m1_0⟩ := hb1.facts (b := w.heap.size) (by (first | omega | (simp only [World.size_alloc, World.size_setCell, size_drewN, World.size_drew] <;> omega))) (by (first | omega | (simp only [World.size_alloc, World.size_setCell, size_drewN, World.size_drew] <;> omega)))
  go_wp2_with fail
  refine (kid_b (N := N) (m := m) (by repeat (first | with_reducible assumption | with_reducible apply Bst.alloc | with_reducible apply Bst.drew | with_reducible apply Bst.drewN | (with_reducible apply Bst.set1; rotate_left; (first | omega | (simp only [World.size_alloc, World.size_setCell, size_drewN, World.size_drew] <;> omega))))) (NdK.stay (Nat.le_refl _) (But.same (lb := bb) (by repeat (first | with_reducible exact But.refl _ _ | with_reducible refine But.alloc ?_ _ | (with_reducible refine But.set1 ?_ ?_ _ _; rotate_left; (first | omega | (simp only [World.size_alloc, World.size_setCell, size_drewN, World.size_drew] <;> omega))) | with_reducible refine But.drew ?_ | with_reducible refine But.drewN ?_ _ | with_reducible refine But.trans ?_ (by assumption))) (by (first | omega | (simp only [World.size_alloc, World.size_setCell, size_drewN, World.size_drew] <;> omega))) (by (first | omega | (simp only [World.size_alloc, World.size_setCell, size_drewN, World.size_drew] <;> omega)))) _ _ hn) 0 a rfl).mono ?_
  rintro e w2 ⟨kv2, rfl, hk2, hs2, hb2⟩
  have z2 := hb2.le
  try simp only [World.size_alloc, World.size_setCell, size_drewN, World.size_drew] at z2
  obtain ⟨c2_0, f2_0, l2_0, n2_0, m2_0⟩ := hb2.facts (b := w.heap.size) (by (first | omega | (simp only [World.size_alloc, World.size_setCell, size_drewN, World.size_drew] <;> omega))) (by (first | omega | (simp only [World.size_alloc, World.size_setCell, size_drewN, World.size_drew] <;> omega)))
  obtain ⟨c2_1, f2_1, l2_1, n2_1, m2_1⟩ := hb2.facts (b := w1.heap.size) (by (first | omega | (simp only [World.size_alloc, World.size_setCell, size_drewN, World.size_drew] <;> omega))) (by (first | omega | (simp only [World.size_alloc, World.size_setCell, size_drewN, World.size_drew] <;> omega)))
  go_wp2_with fail
  refine (Ha.out _ _ N bb m _ hk2 (by repeat (first | with_reducible assumption | with_reducible apply Bst.alloc | with_reducible apply Bst.drew | with_reducible apply Bst.drewN | (with_reducible apply Bst.set1; rotate_left; (first | omega | (simp only [World.size_alloc, World.size_setCell, size_drewN, World.size_drew] <;> omega)))))).mono ?_
  rintro e w3 ⟨v3, rfl, ho3, ha3, hs3, hb3⟩
  have z3 := hb3.le
  try simp only [World.size_alloc, World.size_setCell, size_drewN, World.size_drew] at z3
  obtain ⟨c3_0, f3_0, l3_0, n3_0, m3_0⟩ := hb3.facts (b := w.heap.size) (by (first | omega | (simp only [World.size_alloc, World.size_setCell, size_drewN, World.size_drew] <;> omega))) (by (first | omega | (simp only [World.size_alloc, World.size_setCell, size_drewN, World.size_drew] <;> omega)))
  obtain ⟨c3_1, f3_1, l3_1, n3_1, m3_1⟩ := hb3.facts (b := w1.heap.size) (by (first | omega | (simp only [World.size_alloc, World.size_setCell, size_drewN, World.size_drew] <;> omega))) (by (first | omega | (simp only [World.size_alloc, World.size_setCell, size_drewN, World.size_drew] <;> omega)))
  go_wp2_with fail
  rw [stores_at ho3 (W := w3) (b := w1.heap.size) (o := 1) .nilIface (by first | go_cell | simp [c3_1]) (by simp [f2_1, f3_1])]
  go_wp2_with fail
  refine (kid_b (N := N) (m := m) (by repeat (first | with_reducible assumption | with_reducible apply Bst.alloc | with_reducible apply Bst.drew | with_reducible apply Bst.drewN | (with_reducible apply Bst.set1; rotate_left; (first | omega | (simp only [World.size_alloc, World.size_setCell, size_drewN, World.size_drew] <;> omega))))) (NdK.stay (Nat.le_refl _) (But.same (lb := bb) (by repeat (first | with_reducible exact But.refl _ _ | with_reducible refine But.alloc ?_ _ | (with_reducible refine But.set1 ?_ ?_ _ _; rotate_left; (first | omega | (simp only [World.size_alloc, World.size_setCell, size_drewN, World.size_drew] <;> omega))) | with_reducible refine But.drew ?_ | with_reducible refine But.drewN ?_ _ | with_reducible refine But.trans ?_ (by assumption))) (by (first | omega | (simp only [World.size_alloc, World.size_setCell, size_drewN, World.size_drew] <;> omega))) (by (first | omega | (simp only [World.size_alloc, World.size_setCell, size_drewN, World.size_drew] <;> omega)))) _ _ hn) 1 b rfl).mono ?_
  rintro e w4 ⟨kv4, rfl, hk4, hs4, hb4⟩
  have z4 := hb4.le
  try simp only [World.size_alloc, World.size_setCell, size_drewN, World.size_drew] at z4
  obtain ⟨c4_0, f4_0, l4_0, n4_0, m4_0⟩ := hb4.facts (b := w.heap.size) (by (first | omega | (simp only [World.size_alloc, World.size_setCell, size_drewN, World.size_drew] <;> omega))) (by (first | omega | (simp only [World.size_alloc, World.size_setCell, size_drewN, World.size_drew] <;> omega)))
  obtain ⟨c4_1, f4_1, l4_1, n4_1, m4_1⟩ := hb4.facts (b := w1.heap.size) (by (first | omega | (simp only [World.size_alloc, World.size_setCell, size_drewN, World.size_drew] <;> omega))) (by (first | omega | (simp only [World.size_alloc, World.size_setCell, size_drewN, World.size_drew] <;> omega)))
  go_wp2_with fail
  refine (Hb.out _ _ N bb m _ hk4 (by repeat (first | with_reducible assumption | with_reducible apply Bst.alloc | with_reducible apply Bst.drew | with_reducible apply Bst.drewN | (with_reducible apply Bst.set1; rotate_left; (first | omega | (simp only [World.size_alloc, World.size_setCell, size_drewN, World.size_drew] <;> omega)))))).mono ?_
  rintro e w5 ⟨v5, rfl, ho5, ha5, hs5, hb5⟩
  have z5 := hb5.le
  try simp only [World.size_alloc, World.size_setCell, size_drewN, World.size_drew] at z5
  obtain ⟨c5_0, f5_0, l5_0, n5_0, m5_0⟩ := hb5.facts (b := w.heap.size) (by (first | omega | (simp only [World.size_alloc, World.size_setCell, size_drewN, World.size_drew] <;> omega))) (by (first | omega | (simp only [World.size_alloc, World.size_setCell, size_drewN, World.size_drew] <;> omega)))
  obtain ⟨c5_1, f5_1, l5_1, n5_1, m5_1⟩ := hb5.facts (b := w1.heap.size) (by (first | omega | (simp only [World.size_alloc, World.size_setCell, size_drewN, World.size_drew] <;> omega))) (by (first | omega | (simp only [World.size_alloc, World.size_setCell, size_drewN, World.size_drew] <;> omega)))
  go_wp2_with fail
  rw [stores_at ho5 (W := w5) (b := w1.heap.size) (o := 2) .nilIface (by first | go_cell | simp [c5_1]) (by simp [f2_1, f3_1, f4_1, f5_1])]
  go_wp2_with fail
  refine (kid_b (N := N) (m := m) (by repeat (first | with_reducible assumption | with_reducible apply Bst.alloc | with_reducible apply Bst.drew | with_reducible apply Bst.drewN | (with_reducible apply Bst.set1; rotate_left; (first | omega | (simp only [World.size_alloc, World.size_setCell, size_drewN, World.size_drew] <;> omega))))) (NdK.stay (Nat.le_refl _) (But.same (lb := bb) (by repeat (first | with_reducible exact But.refl _ _ | with_reducible refine But.alloc ?_ _ | (with_reducible refine But.set1 ?_ ?_ _ _; rotate_left; (first | omega | (simp only [World.size_alloc, World.size_setCell, size_drewN, World.size_drew] <;> omega))) | with_reducible refine But.drew ?_ | with_reducible refine But.drewN ?_ _ | with_reducible refine But.trans ?_ (by assumption))) (by (first | omega | (simp only [World.size_alloc, World.size_setCell, size_drewN, World.size_drew] <;> omega))) (by (first | omega | (simp only [World.size_alloc, World.size_setCell, size_drewN, World.size_drew] <;> omega)))) _ _ hn) 2 c rfl).mono ?_
  rintro e w6 ⟨kv6, rfl, hk6, hs6, hb6⟩
  have z6 := hb6.le
  try simp only [World.size_alloc, World.size_setCell, size_drewN, World.size_drew] at z6
  obtain ⟨c6_0, f6_0, l6_0, n6_0, m6_0⟩ := hb6.facts (b := w.heap.size) (by (first | omega | (simp only [World.size_alloc, World.size_setCell, size_drewN, World.size_drew] <;> omega))) (by (first | omega | (simp only [World.size_alloc, World.size_setCell, size_drewN, World.size_drew] <;> omega)))
  obtain ⟨c6_1, f6_1, l6_1, n6_1, m6_1⟩ := hb6.facts (b := w1.heap.size) (by (first | omega | (simp only [World.size_alloc, World.size_setCell, size_drewN, World.size_drew] <;> omega))) (by (first | omega | (simp only [World.size_alloc, World.size_setCell, size_drewN, World.size_drew] <;> omega)))
  go_wp2_with fail
  refine (Hc.out _ _ N bb m _ hk6 (by repeat (first | with_reducible assumption | with_reducible apply Bst.alloc | with_reducible apply Bst.drew | with_reducible apply Bst.drewN | (with_reducible apply Bst.set1; rotate_left; (first | omega | (simp only [World.size_alloc, World.size_setCell, size_drewN, World.size_drew] <;> omega)))))).mono ?_
  rintro e w7 ⟨v7, rfl, ho7, ha7, hs7, hb7⟩
  have z7 := hb7.le
  try simp only [World.size_alloc, World.size_setCell, size_drewN, World.size_drew] at z7
  obtain ⟨c7_0, f7_0, l7_0, n7_0, m7_0⟩ := hb7.facts (b := w.heap.size) (by (first | omega | (simp only [World.size_alloc, World.size_setCell, size_drewN, World.size_drew] <;> omega))) (by (first | omega | (simp only [World.size_alloc, World.size_setCell, size_drewN, World.size_drew] <;> omega)))
  obtain ⟨c7_1, f7_1, l7_1, n7_1, m7_1⟩ := hb7.facts (b := w1.heap.size) (by (first | omega | (simp only [World.size_alloc, World.size_setCell, size_drewN, World.size_drew] <;> omega))) (by (first | omega | (simp only [World.size_alloc, World.size_setCell, size_drewN, World.size_drew] <;> omega)))
  go_wp2_with fail
  rw [stores_at ho7 (W := w7) (b := w1.heap.size) (o := 3) .nilIface (by first | go_cell | simp [c7_1]) (by simp [f2_1, f3_1, f4_1, f5_1, f6_1, f7_1])]
  go_wp2_with fail
  refine (kid_b (N := N) (m := m) (by repeat (first | with_reducible assumption | with_reducible apply Bst.alloc | with_reducible apply Bst.drew | with_reducible apply Bst.drewN | (with_reducible apply Bst.set1; rotate_left; (first | omega | (simp only [World.size_alloc, World.size_setCell, size_drewN, World.size_drew] <;> omega))))) (NdK.stay (Nat.le_refl _) (But.same (lb := bb) (by repeat (first | with_reducible exact But.refl _ _ | with_reducible refine But.alloc ?_ _ | (with_reducible refine But.set1 ?_ ?_ _ _; rotate_left; (first | omega | (simp only [World.size_alloc, World.size_setCell, size_drewN, World.size_drew] <;> omega))) | with_reducible refine But.drew ?_ | with_reducible refine But.drewN ?_ _ | with_reducible refine But.trans ?_ (by assumption))) (by (first | omega | (simp only [World.size_alloc, World.size_setCell, size_drewN, World.size_drew] <;> omega))) (by (first | omega | (simp only [World.size_alloc, World.size_setCell, size_drewN, World.size_drew] <;> omega)))) _ _ hn) 3 d rfl).mono ?_
  rintro e w8 ⟨kv8, rfl, hk8, hs8, hb8⟩
  have z8 := hb8.le
  try simp only [World.size_alloc, World.size_setCell, size_drewN, World.size_drew] at z8
  obtain ⟨c8_0, f8_0, l8_0, n8_0, m8_0⟩ := hb8.facts (b := w.heap.size) (by (first | omega | (simp only [World.size_alloc, World.size_setCell, size_drewN, World.size_drew] <;> omega))) (by (first | omega | (simp only [World.size_alloc, World.size_setCell, size_drewN, World.size_drew] <;> omega)))
  obtain ⟨c8_1, f8_1, l8_1, n8_1, m8_1⟩ := hb8.facts (b := w1.heap.size) (by (first | omega | (simp only [World.size_alloc, World.size_setCell, size_drewN, World.size_drew] <;> omega))) (by (first | omega | (simp only [World.size_alloc, World.size_setCell, size_drewN, World.size_drew] <;> omega)))
  go_wp2_with fail
  refine (Hd.out _ _ N bb m _ hk8 (by repeat (first | with_reducible assumption | with_reducible apply Bst.alloc | with_reducible apply Bst.drew | with_reducible apply Bst.drewN | (with_reducible apply Bst.set1; rotate_left; (first | omega | (simp only [World.size_alloc, World.size_setCell, size_drewN, World.size_drew] <;> omega)))))).mono ?_
  rintro e w9 ⟨p9, rfl, ha9, hs9, hb9⟩
  have z9 := hb9.le
  try simp only [World.size_alloc, World.size_setCell, size_drewN, World.size_drew] at z9
  obtain ⟨c9_0, f9_0, l9_0, n9_0, m9_0⟩ := hb9.facts (b := w.heap.size) (by (first | omega | (simp only [World.size_alloc, World.size_setCell, size_drewN, World.size_drew] <;> omega))) (by (first | omega | (simp only [World.size_alloc, World.size_setCell, size_drewN, World.size_drew] <;> omega)))
  obtain ⟨c9_1, f9_1, l9_1, n9_1, m9_1⟩ := hb9.facts (b := w1.heap.size) (by (first | omega | (simp only [World.size_alloc, World.size_setCell, size_drewN, World.size_drew] <;> omega))) (by (first | omega | (simp only [World.size_alloc, World.size_setCell, size_drewN, World.size_drew] <;> omega)))
  go_wp2_with fail
  go_ret
  unfold EPost
  rw [HV.out]
  unfold mkFor
  dsimp only
  refine ⟨_, rfl, ?_, (by repeat (first | with_reducible assumption | with_reducible apply Bst.alloc | with_reducible apply Bst.drew | with_reducible apply Bst.drewN | (with_reducible apply Bst.set1; rotate_left; (first | omega | (simp only [World.size_alloc, World.size_setCell, size_drewN, World.size_drew] <;> omega))))), (by repeat (first | with_reducible exact But.refl _ _ | with_reducible refine But.alloc ?_ _ | (with_reducible refine But.set1 ?_ ?_ _ _; rotate_left; (first | omega | (simp only [World.size_alloc, World.size_setCell, size_drewN, World.size_drew] <;> omega))) | with_reducible refine But.drew ?_ | with_reducible refine But.drewN ?_ _ | with_reducible refine But.trans ?_ (by assumption)))⟩
  exact At_forS.2 ⟨w1.heap.size, rfl, ⟨by (first | omega | (simp only [World.size_alloc, World.size_setCell, size_drewN, World.size_drew] <;> omega)), by (first | omega | (simp only [World.size_alloc, World.size_setCell, size_drewN, World.size_drew] <;> omega))⟩, _, _, _, _, by go_cell, by go_cell, ha3.wide (by repeat (first | with_reducible exact MidI.refl _ _ _ | (with_reducible refine MidI.alloc ?_ ?_ _; rotate_left; (first | omega | (simp only [World.size_alloc, World.size_setCell, size_drewN, World.size_drew] <;> omega))) | (with_reducible refine MidI.set1 ?_ ?_ _ _; rotate_left; (first | omega | (simp only [World.size_alloc, World.size_setCell, size_drewN, World.size_drew] <;> omega))) | with_reducible refine MidI.drew ?_ | with_reducible refine MidI.drewN ?_ _ | (with_reducible refine MidI.but ?_ (by assumption) ?_ ?_; rotate_left; (first | omega | (simp only [World.size_alloc, World.size_setCell, size_drewN, World.size_drew] <;> omega)); (first | omega | (simp only [World.size_alloc, World.size_setCell, size_drewN, World.size_drew] <;> omega))))) (by (first | omega | (simp only [World.size_alloc, World.size_setCell, size_drewN, World.size_drew] <;> omega))) (by (first | omega | (simp only [World.size_alloc, World.size_setCell, size_drewN, World.size_drew] <;> omega))), by go_cell, ha5.wide (by repeat (first | with_reducible exact MidI.refl _ _ _ | (with_reducible refine MidI.alloc ?_ ?_ _; rotate_left; (first | omega | (simp only [World.size_alloc, World.size_setCell, size_drewN, World.size_drew] <;> omega))) | (with_reducible refine MidI.set1 ?_ ?_ _ _; rotate_left; (first | omega | (simp only [World.size_alloc, World.size_setCell, size_drewN, World.size_drew] <;> omega))) | with_reducible refine MidI.drew ?_ | with_reducible refine MidI.drewN ?_ _ | (with_reducible refine MidI.but ?_ (by assumption) ?_ ?_; rotate_left; (first | omega | (simp only [World.size_alloc, World.size_setCell, size_drewN, World.size_drew] <;> omega)); (first | omega | (simp only [World.size_alloc, World.size_setCell, size_drewN, World.size_drew] <;> omega))))) (by (first | omega | (simp only [World.size_alloc, World.size_setCell, size_drewN, World.size_drew] <;> omega))) (by (first | omega | (simp only [World.size_alloc, World.size_setCell, size_drewN, World.size_drew] <;> omega))), by go_cell, ha7.wide (by repeat (first | with_reducible exact MidI.refl _ _ _ | (with_reducible refine MidI.alloc ?_ ?_ _; rotate_left; (first | omega | (simp only [World.size_alloc, World.size_setCell, size_drewN, World.size_drew] <;> omega))) | (with_reducible refine MidI.set1 ?_ ?_ _ _; rotate_left; (first | omega | (simp only [World.size_alloc, World.size_setCell, size_drewN, World.size_drew] <;> omega))) | with_reducible refine MidI.drew ?_ | with_reducible refine MidI.drewN ?_ _ | (with_reducible refine MidI.but ?_ (by assumption) ?_ ?_; rotate_left; (first | omega | (simp only [World.size_alloc, World.size_setCell, size_drewN, World.size_drew] <;> omega)); (first | omega | (simp only [World.size_alloc, World.size_setCell, size_drewN, World.size_drew] <;> omega))))) (by (first | omega | (simp only [World.size_alloc, World.size_setCell, size_drewN, World.size_drew] <;> omega))) (by (first | omega | (simp only [World.size_alloc, World.size_setCell, size_drewN, World.size_drew] <;> omega))), by go_cell, ha9.wide (by repeat (first | with_reducible exact MidI.refl _ _ _ | (with_reducible refine MidI.alloc ?_ ?_ _; rotate_left; (first | omega | (simp only [World.size_alloc, World.size_setCell, size_drewN, World.size_drew] <;> omega))) | (with_reducible refine MidI.set1 ?_ ?_ _ _; rotate_left; (first | omega | (simp only [World.size_alloc, World.size_setCell, size_drewN, World.size_drew] <;> omega))) | with_reducible refine MidI.drew ?_ | with_reducible refine MidI.drewN ?_ _ | (with_reducible refine MidI.but ?_ (by assumption) ?_ ?_; rotate_left; (first | omega | (simp only [World.size_alloc, World.size_setCell, size_drewN, World.size_drew] <;> omega)); (first | omega | (simp only [World.size_alloc, World.size_setCell, size_drewN, World.size_drew] <;> omega))))) (by (first | omega | (simp only [World.size_alloc, World.size_setCell, size_drewN, World.size_drew] <;> omega))) (by (first | omega | (simp only [World.size_alloc, World.size_setCell, size_drewN, World.size_drew] <;> omega)))⟩

set_option maxRecDepth 100000 in
set_option maxHeartbeats 4000000 in
theorem stmt_range0 (a : Nd) (b : Nd) (c : Nd) (d : Nd) (hc : ExprOK c) (hd : BlockOK d) : StmtOK (.mk ⟨#[114, 97, 110, 103, 101]⟩ ⟨#[]⟩ [a, b, c, d]) := by
  intro kv w N bb m l hn hs0
  obtain ⟨ka, cap, hv, -, -⟩ := hn.slice
  subst hv
  have hN1 := hs0.hN
  have hN2 := hs0.hb
  have hN3 := hs0.hm
  have z0 := hs0.sz
  have HV := hide (show bS (.mk ⟨#[114, 97, 110, 103, 101]⟩ ⟨#[]⟩ [a, b, c, d]) l = mkRange0 l (bE c l.tail.tail) (bB d (bE c l.tail.tail).2) by simp [bS])
  have Hc := hide hc
  clear hc
  have Hd := hide hd
  clear hd
  simp only [Nd.kids_mk, Nd.kind_mk, Nd.text_mk, List.length_cons, List.length_nil] at hn ⊢
  go_enter Tryz.func51, Tryz.ntmps51
  go_wp2_with fail
  refine (next_any (N := N) (m := m) (by repeat (first | with_reducible assumption | with_reducible apply Bst.alloc | with_reducible apply Bst.drew | with_reducible apply Bst.drewN | (with_reducible apply Bst.set1; rotate_left; (first | omega | (simp only [World.size_alloc, World.size_setCell, size_drewN, World.size_drew] <;> omega)))))).mono ?_
  rintro e w1 ⟨rfl, hs1, hb1⟩
  have z1 := hb1.le
  try simp only [World.size_alloc, World.size_setCell, size_drewN, World.size_drew] at z1
  obtain ⟨c1_0, f1_0, l1_0, n1_0, m1_0⟩ := hb1.facts (b := w.heap.size) (by (first | omega | (simp only [World.size_alloc, World.size_setCell, size_drewN, World.size_drew] <;> omega))) (by (first | omega | (simp only [World.size_alloc, World.size_setCell, size_drewN, World.size_drew] <;> omega)))
  go_wp2_with fail
  refine (next_any (N := N) (m := m) (by repeat (first | with_reducible assumption | with_reducible apply Bst.alloc | with_reducible apply Bst.drew | with_reducible apply Bst.drewN | (with_reducible apply Bst.set1; rotate_left; (first | omega | (simp only [World.size_alloc, World.size_setCell, size_drewN, World.size_drew] <;> omega)))))).mono ?_
  rintro e w2 ⟨rfl, hs2, hb2⟩
  have z2 := hb2.le
  try simp only [World.size_alloc, World.size_setCell, size_drewN, World.size_drew] at z2
  obtain ⟨c2_0, f2_0, l2_0, n2_0, m2_0⟩ := hb2.facts (b := w.heap.size) (by (first | omega | (simp only [World.size_alloc, World.size_setCell, size_drewN, World.size_drew] <;> omega))) (by (first | omega | (simp only [World.size_alloc, World.size_setCell, size_drewN, World.size_drew] <;> omega)))
  obtain ⟨c2_1, f2_1, l2_1, n2_1, m2_1⟩ := hb2.facts (b := w1.heap.size) (by (first | omega | (simp only [World.size_alloc, World.size_setCell, size_drewN, World.size_drew] <;> omega))) (by (first | omega | (simp only [World.size_alloc, World.size_setCell, size_drewN, World.size_drew] <;> omega)))
  go_wp2_with fail
  refine (kid_b (N := N) (m := m) (by repeat (first | with_reducible assumption | with_reducible apply Bst.alloc | with_reducible apply Bst.drew | with_reducible apply Bst.drewN | (with_reducible apply Bst.set1; rotate_left; (first | omega | (simp only [World.size_alloc, World.size_setCell, size_drewN, World.size_drew] <;> omega))))) (NdK.stay (Nat.le_refl _) (But.same (lb := bb) (by repeat (first | with_reducible exact But.refl _ _ | with_reducible refine But.alloc ?_ _ | (with_reducible refine But.set1 ?_ ?_ _ _; rotate_left; (first | omega | (simp only [World.size_alloc, World.size_setCell, size_drewN, World.size_drew] <;> omega))) | with_reducible refine But.drew ?_ | with_reducible refine But.drewN ?_ _ | with_reducible refine But.trans ?_ (by assumption))) (by (first | omega | (simp only [World.size_alloc, World.size_setCell, size_drewN, World.size_drew] <;> omega))) (by (first | omega | (simp only [World.size_alloc, World.size_setCell, size_drewN, World.size_drew] <;> omega)))) _ _ hn) 2 c rfl).mono ?_
  rintro e w3 ⟨kv3, rfl, hk3, hs3, hb3⟩
  have z3 := hb3.le
  try simp only [World.size_alloc, World.size_setCell, size_drewN, World.size_drew] at z3
  obtain ⟨c3_0, f3_0, l3_0, n3_0, m3_0⟩ := hb3.facts (b := w.heap.size) (by (first | omega | (simp only [World.size_alloc, World.size_setCell, size_drewN, World.size_drew] <;> omega))) (by (first | omega | (simp only [World.size_alloc, World.size_setCell, size_drewN, World.size_drew] <;> omega)))
  obtain ⟨c3_1, f3_1, l3_1, n3_1, m3_1⟩ := hb3.facts (b := w1.heap.size) (by (first | omega | (simp only [World.size_alloc, World.size_setCell, size_drewN, World.size_drew] <;> omega))) (by (first | omega | (simp only [World.size_alloc, World.size_setCell, size_drewN, World.size_drew] <;> omega)))
  go_wp2_with fail
  refine (Hc.out _ _ N bb m _ hk3 (by repeat (first | with_reducible assumption | with_reducible apply Bst.alloc | with_reducible apply Bst.drew | with_reducible apply Bst.drewN | (with_reducible apply Bst.set1; rotate_left; (first | omega | (simp only [World.size_alloc, World.size_setCell, size_drewN, World.size_drew] <;> omega)))))).mono ?_
  rintro e w4 ⟨v4, rfl, ha4, hs4, hb4⟩
  obtain ⟨p4, rfl, hp4⟩ := ha4.ptr
  have z4 := hb4.le
  try simp only [World.size_alloc, World.size_setCell, size_drewN, World.size_drew] at z4
  obtain ⟨c4_0, f4_0, l4_0, n4_0, m4_0⟩ := hb4.facts (b := w.heap.size) (by (first | omega | (simp only [World.size_alloc, World.size_setCell, size_drewN, World.size_drew] <;> omega))) (by (first | omega | (simp only [World.size_alloc, World.size_setCell, size_drewN, World.size_drew] <;> omega)))
  obtain ⟨c4_1, f4_1, l4_1, n4_1, m4_1⟩ := hb4.facts (b := w1.heap.size) (by (first | omega | (simp only [World.size_alloc, World.size_setCell, size_drewN, World.size_drew] <;> omega))) (by (first | omega | (simp only [World.size_alloc, World.size_setCell, size_drewN, World.size_drew] <;> omega)))
  go_wp2_with fail
  refine (kid_b (N := N) (m := m) (by repeat (first | with_reducible assumption | with_reducible apply Bst.alloc | with_reducible apply Bst.drew | with_reducible apply Bst.drewN | (with_reducible apply Bst.set1; rotate_left; (first | omega | (simp only [World.size_alloc, World.size_setCell, size_drewN, World.size_drew] <;> omega))))) (NdK.stay (Nat.le_refl _) (But.same (lb := bb) (by repeat (first | with_reducible exact But.refl _ _ | with_reducible refine But.alloc ?_ _ | (with_reducible refine But.set1 ?_ ?_ _ _; rotate_left; (first | omega | (simp only [World.size_alloc, World.size_setCell, size_drewN, World.size_drew] <;> omega))) | with_reducible refine But.drew ?_ | with_reducible refine But.drewN ?_ _ | with_reducible refine But.trans ?_ (by assumption))) (by (first | omega | (simp only [World.size_alloc, World.size_setCell, size_drewN, World.size_drew] <;> omega))) (by (first | omega | (simp only [World.size_alloc, World.size_setCell, size_drewN, World.size_drew] <;> omega)))) _ _ hn) 3 d rfl).mono ?_
  rintro e w5 ⟨kv5, rfl, hk5, hs5, hb5⟩
  have z5 := hb5.le
  try simp only [World.size_alloc, World.size_setCell, size_drewN, World.size_drew] at z5
  obtain ⟨c5_0, f5_0, l5_0, n5_0, m5_0⟩ := hb5.facts (b := w.heap.size) (by (first | omega | (simp only [World.size_alloc, World.size_setCell, size_drewN, World.size_drew] <;> omega))) (by (first | omega | (simp only [World.size_alloc, World.size_setCell, size_drewN, World.size_drew] <;> omega)))
  obtain ⟨c5_1, f5_1, l5_1, n5_1, m5_1⟩ := hb5.facts (b := w1.heap.size) (by (first | omega | (simp only [World.size_alloc, World.size_setCell, size_drewN, World.size_drew] <;> omega))) (by (first | omega | (simp only [World.size_alloc, World.size_setCell, size_drewN, World.size_drew] <;> omega)))
  go_wp2_with fail
  refine (Hd.out _ _ N bb m _ hk5 (by repeat (first | with_reducible assumption | with_reducible apply Bst.alloc | with_reducible apply Bst.drew | with_reducible apply Bst.drewN | (with_reducible apply Bst.set1; rotate_left; (first | omega | (simp only [World.size_alloc, World.size_setCell, size_drewN, World.size_drew] <;> omega)))))).mono ?_
  rintro e w6 ⟨p6, rfl, ha6, hs6, hb6⟩
  have z6 := hb6.le
  try simp only [World.size_alloc, World.size_setCell, size_drewN, World.size_drew] at z6
  obtain ⟨c6_0, f6_0, l6_0, n6_0, m6_0⟩ := hb6.facts (b := w.heap.size) (by (first | omega | (simp only [World.size_alloc, World.size_setCell, size_drewN, World.size_drew] <;> omega))) (by (first | omega | (simp only [World.size_alloc, World.size_setCell, size_drewN, World.size_drew] <;> omega)))
  obtain ⟨c6_1, f6_1, l6_1, n6_1, m6_1⟩ := hb6.facts (b := w1.heap.size) (by (first | omega | (simp only [World.size_alloc, World.size_setCell, size_drewN, World.size_drew] <;> omega))) (by (first | omega | (simp only [World.size_alloc, World.size_setCell, size_drewN, World.size_drew] <;> omega)))
  go_wp2_with fail
  go_ret
  unfold EPost
  rw [HV.out]
  unfold mkRange0
  dsimp only
  refine ⟨_, rfl, ?_, (by repeat (first | with_reducible assumption | with_reducible apply Bst.alloc | with_reducible apply Bst.drew | with_reducible apply Bst.drewN | (with_reducible apply Bst.set1; rotate_left; (first | omega | (simp only [World.size_alloc, World.size_setCell, size_drewN, World.size_drew] <;> omega))))), (by repeat (first | with_reducible exact But.refl _ _ | with_reducible refine But.alloc ?_ _ | (with_reducible refine But.set1 ?_ ?_ _ _; rotate_left; (first | omega | (simp only [World.size_alloc, World.size_setCell, size_drewN, World.size_drew] <;> omega))) | with_reducible refine But.drew ?_ | with_reducible refine But.drewN ?_ _ | with_reducible refine But.trans ?_ (by assumption)))⟩
  exact At_rangeS.2 ⟨w1.heap.size, rfl, ⟨by (first | omega | (simp only [World.size_alloc, World.size_setCell, size_drewN, World.size_drew] <;> omega)), by (first | omega | (simp only [World.size_alloc, World.size_setCell, size_drewN, World.size_drew] <;> omega))⟩, _, _, _, _, by go_cell, by go_cell, AtO_none.2 rfl, by go_cell, AtO_none.2 rfl, by go_cell, by go_cell, by go_cell, by go_cell, ha4.wide (by repeat (first | with_reducible exact MidI.refl _ _ _ | (with_reducible refine MidI.alloc ?_ ?_ _; rotate_left; (first | omega | (simp only [World.size_alloc, World.size_setCell, size_drewN, World.size_drew] <;> omega))) | (with_reducible refine MidI.set1 ?_ ?_ _ _; rotate_left; (first | omega | (simp only [World.size_alloc, World.size_setCell, size_drewN, World.size_drew] <;> omega))) | with_reducible refine MidI.drew ?_ | with_reducible refine MidI.drewN ?_ _ | (with_reducible refine MidI.but ?_ (by assumption) ?_ ?_; rotate_left; (first | omega | (simp only [World.size_alloc, World.size_setCell, size_drewN, World.size_drew] <;> omega)); (first | omega | (simp only [World.size_alloc, World.size_setCell, size_drewN, World.size_drew] <;> omega))))) (by (first | omega | (simp only [World.size_alloc, World.size_setCell, size_drewN, World.size_drew] <;> omega))) (by (first | omega | (simp only [World.size_alloc, World.size_setCell, size_drewN, World.size_drew] <;> omega))), by go_cell, ha6.wide (by repeat (first | with_reducible exact MidI.refl _ _ _ | (with_reducible refine MidI.alloc ?_ ?_ _; rotate_left; (first | omega | (simp only [World.size_alloc, World.size_setCell, size_drewN, World.size_drew] <;> omega))) | (with_reducible refine MidI.set1 ?_ ?_ _ _; rotate_left; (first | omega | (simp only [World.size_alloc, World.size_setCell, size_drewN, World.size_drew] <;> omega))) | with_reducible refine MidI.drew ?_ | with_reducible refine MidI.drewN ?_ _ | (with_reducible refine MidI.but ?_ (by assumption) ?_ ?_; rotate_left; (first | omega | (simp only [World.size_alloc, World.size_setCell, size_drewN, World.size_drew] <;> omega)); (first | omega | (simp only [World.size_alloc, World.size_setCell, size_drewN, World.size_drew] <;> omega))))) (by (first | omega | (simp only [World.size_alloc, World.size_setCell, size_drewN, World.size_drew] <;> omega))) (by (first | omega | (simp only [World.size_alloc, World.size_setCell, size_drewN, World.size_drew] <;> omega)))⟩

set_option maxRecDepth 100000 in
set_option maxHeartbeats 4000000 in
theorem stmt_range1 (t : ByteArray) (a : Nd) (b : Nd) (c : Nd) (d : Nd) (ha : ExprOK a) (hc : ExprOK c) (hd : BlockOK d) (ht : (t.toList == []) = false) (hm : miss b = true) : StmtOK (.mk ⟨#[114, 97, 110, 103, 101]⟩ t [a, b, c, d]) := by
  intro kv w N bb m l hn hs0
  obtain ⟨ka, cap, hv, -, -⟩ := hn.slice
  subst hv
  have hN1 := hs0.hN
  have hN2 := hs0.hb
  have hN3 := hs0.hm
  have z0 := hs0.sz
  have HV := hide (show bS (.mk ⟨#[114, 97, 110, 103, 101]⟩ t [a, b, c, d]) l = mkRange l (bE a l.tail) ((none, (bE a l.tail).2) : BO) t (bE c ((none, (bE a l.tail).2) : BO).2.tail.tail) (bB d (bE c ((none, (bE a l.tail).2) : BO).2.tail.tail).2) by simp [bS, bEC, optB_miss hm, beq_ne_nil ht])
  have Ha := hide ha
  clear ha
  have Hc := hide hc
  clear hc
  have Hd := hide hd
  clear hd
  have hkb : (b.kind.toList == [110, 111, 110, 101]) = true := by rw [miss_kind hm]; simp
  have hfq := field_kind
  simp only [Nd.kids_mk, Nd.kind_mk, Nd.text_mk, List.length_cons, List.length_nil] at hn ⊢
  go_enter Tryz.func51, Tryz.ntmps51
  go_wp2_with fail
  refine (next_any (N := N) (m := m) (by repeat (first | with_reducible assumption | with_reducible apply Bst.alloc | with_reducible apply Bst.drew | with_reducible apply Bst.drewN | (with_reducible apply Bst.set1; rotate_left; (first | omega | (simp only [World.size_alloc, World.size_setCell, size_drewN, World.size_drew] <;> omega)))))).mono ?_
  rintro e w1 ⟨rfl, hs1, hb1⟩
  have z1 := hb1.le
  try simp only [World.size_alloc, World.size_setCell, size_drewN, World.size_drew] at z1
  obtain ⟨c1_0, f1_0, l1_0, n1_0, m1_0⟩ := hb1.facts (b := w.heap.size) (by (first | omega | (simp only [World.size_alloc, World.size_setCell, size_drewN, World.size_drew] <;> omega))) (by (first | omega | (simp only [World.size_alloc, World.size_setCell, size_drewN, World.size_drew] <;> omega)))
  go_wp2_with fail
  refine (kid_b (N := N) (m := m) (by repeat (first | with_reducible assumption | with_reducible apply Bst.alloc | with_reducible apply Bst.drew | with_reducible apply Bst.drewN | (with_reducible apply Bst.set1; rotate_left; (first | omega | (simp only [World.size_alloc, World.size_setCell, size_drewN, World.size_drew] <;> omega))))) (NdK.stay (Nat.le_refl _) (But.same (lb := bb) (by repeat (first | with_reducible exact But.refl _ _ | with_reducible refine But.alloc ?_ _ | (with_reducible refine But.set1 ?_ ?_ _ _; rotate_left; (first | omega | (simp only [World.size_alloc, World.size_setCell, size_drewN, World.size_drew] <;> omega))) | with_reducible refine But.drew ?_ | with_reducible refine But.drewN ?_ _ | with_reducible refine But.trans ?_ (by assumption))) (by (first | omega | (simp only [World.size_alloc, World.size_setCell, size_drewN, World.size_drew] <;> omega))) (by (first | omega | (simp only [World.size_alloc, World.size_setCell, size_drewN, World.size_drew] <;> omega)))) _ _ hn) 0 a rfl).mono ?_
  rintro e w2 ⟨kv2, rfl, hk2, hs2, hb2⟩
  have z2 := hb2.le
  try simp only [World.size_alloc, World.size_setCell, size_drewN, World.size_drew] at z2
  obtain ⟨c2_0, f2_0, l2_0, n2_0, m2_0⟩ := hb2.facts (b := w.heap.size) (by (first | omega | (simp only [World.size_alloc, World.size_setCell, size_drewN, World.size_drew] <;> omega))) (by (first | omega | (simp only [World.size_alloc, World.size_setCell, size_drewN, World.size_drew] <;> omega)))
  obtain ⟨c2_1, f2_1, l2_1, n2_1, m2_1⟩ := hb2.facts (b := w1.heap.size) (by (first | omega | (simp only [World.size_alloc, World.size_setCell, size_drewN, World.size_drew] <;> omega))) (by (first | omega | (simp only [World.size_alloc, World.size_setCell, size_drewN, World.size_drew] <;> omega)))
  go_wp2_with fail
  refine (Ha.out _ _ N bb m _ hk2 (by repeat (first | with_reducible assumption | with_reducible apply Bst.alloc | with_reducible apply Bst.drew | with_reducible apply Bst.drewN | (with_reducible apply Bst.set1; rotate_left; (first | omega | (simp only [World.size_alloc, World.size_setCell, size_drewN, World.size_drew] <;> omega)))))).mono ?_
  rintro e w3 ⟨v3, rfl, ha3, hs3, hb3⟩
  obtain ⟨p3, rfl, hp3⟩ := ha3.ptr
  have z3 := hb3.le
  try simp only [World.size_alloc, World.size_setCell, size_drewN, World.size_drew] at z3
  obtain ⟨c3_0, f3_0, l3_0, n3_0, m3_0⟩ := hb3.facts (b := w.heap.size) (by (first | omega | (simp only [World.size_alloc, World.size_setCell, size_drewN, World.size_drew] <;> omega))) (by (first | omega | (simp only [World.size_alloc, World.size_setCell, size_drewN, World.size_drew] <;> omega)))
  obtain ⟨c3_1, f3_1, l3_1, n3_1, m3_1⟩ := hb3.facts (b := w1.heap.size) (by (first | omega | (simp only [World.size_alloc, World.size_setCell, size_drewN, World.size_drew] <;> omega))) (by (first | omega | (simp only [World.size_alloc, World.size_setCell, size_drewN, World.size_drew] <;> omega)))
  go_wp2_with fail
  refine (kid_b (N := N) (m := m) (by repeat (first | with_reducible assumption | with_reducible apply Bst.alloc | with_reducible apply Bst.drew | with_reducible apply Bst.drewN | (with_reducible apply Bst.set1; rotate_left; (first | omega | (simp only [World.size_alloc, World.size_setCell, size_drewN, World.size_drew] <;> omega))))) (NdK.stay (Nat.le_refl _) (But.same (lb := bb) (by repeat (first | with_reducible exact But.refl _ _ | with_reducible refine But.alloc ?_ _ | (with_reducible refine But.set1 ?_ ?_ _ _; rotate_left; (first | omega | (simp only [World.size_alloc, World.size_setCell, size_drewN, World.size_drew] <;> omega))) | with_reducible refine But.drew ?_ | with_reducible refine But.drewN ?_ _ | with_reducible refine But.trans ?_ (by assumption))) (by (first | omega | (simp only [World.size_alloc, World.size_setCell, size_drewN, World.size_drew] <;> omega))) (by (first | omega | (simp only [World.size_alloc, World.size_setCell, size_drewN, World.size_drew] <;> omega)))) _ _ hn) 1 b rfl).mono ?_
  rintro e w4 ⟨kv4, rfl, hk4, hs4, hb4⟩
  have z4 := hb4.le
  try simp only [World.size_alloc, World.size_setCell, size_drewN, World.size_drew] at z4
  obtain ⟨c4_0, f4_0, l4_0, n4_0, m4_0⟩ := hb4.facts (b := w.heap.size) (by (first | omega | (simp only [World.size_alloc, World.size_setCell, size_drewN, World.size_drew] <;> omega))) (by (first | omega | (simp only [World.size_alloc, World.size_setCell, size_drewN, World.size_drew] <;> omega)))
  obtain ⟨c4_1, f4_1, l4_1, n4_1, m4_1⟩ := hb4.facts (b := w1.heap.size) (by (first | omega | (simp only [World.size_alloc, World.size_setCell, size_drewN, World.size_drew] <;> omega))) (by (first | omega | (simp only [World.size_alloc, World.size_setCell, size_drewN, World.size_drew] <;> omega)))
  obtain ⟨sa4, sc4, hv4, -, -⟩ := hk4.slice
  subst hv4
  go_wp2_with fail
  refine (next_any (N := N) (m := m) (by repeat (first | with_reducible assumption | with_reducible apply Bst.alloc | with_reducible apply Bst.drew | with_reducible apply Bst.drewN | (with_reducible apply Bst.set1; rotate_left; (first | omega | (simp only [World.size_alloc, World.size_setCell, size_drewN, World.size_drew] <;> omega)))))).mono ?_
  rintro e w5 ⟨rfl, hs5, hb5⟩
  have z5 := hb5.le
  try simp only [World.size_alloc, World.size_setCell, size_drewN, World.size_drew] at z5
  obtain ⟨c5_0, f5_0, l5_0, n5_0, m5_0⟩ := hb5.facts (b := w.heap.size) (by (first | omega | (simp only [World.size_alloc, World.size_setCell, size_drewN, World.size_drew] <;> omega))) (by (first | omega | (simp only [World.size_alloc, World.size_setCell, size_drewN, World.size_drew] <;> omega)))
  obtain ⟨c5_1, f5_1, l5_1, n5_1, m5_1⟩ := hb5.facts (b := w1.heap.size) (by (first | omega | (simp only [World.size_alloc, World.size_setCell, size_drewN, World.size_drew] <;> omega))) (by (first | omega | (simp only [World.size_alloc, World.size_setCell, size_drewN, World.size_drew] <;> omega)))
  go_wp2_with fail
  refine (word_b (N := N) (m := m) (by repeat (first | with_reducible assumption | with_reducible apply Bst.alloc | with_reducible apply Bst.drew | with_reducible apply Bst.drewN | (with_reducible apply Bst.set1; rotate_left; (first | omega | (simp only [World.size_alloc, World.size_setCell, size_drewN, World.size_drew] <;> omega))))) _).mono ?_
  rintro e wz ⟨rfl, rfl⟩
  go_wp2_with fail
  refine (next_any (N := N) (m := m) (by repeat (first | with_reducible assumption | with_reducible apply Bst.alloc | with_reducible apply Bst.drew | with_reducible apply Bst.drewN | (with_reducible apply Bst.set1; rotate_left; (first | omega | (simp only [World.size_alloc, World.size_setCell, size_drewN, World.size_drew] <;> omega)))))).mono ?_
  rintro e w6 ⟨rfl, hs6, hb6⟩
  have z6 := hb6.le
  try simp only [World.size_alloc, World.size_setCell, size_drewN, World.size_drew] at z6
  obtain ⟨c6_0, f6_0, l6_0, n6_0, m6_0⟩ := hb6.facts (b := w.heap.size) (by (first | omega | (simp only [World.size_alloc, World.size_setCell, size_drewN, World.size_drew] <;> omega))) (by (first | omega | (simp only [World.size_alloc, World.size_setCell, size_drewN, World.size_drew] <;> omega)))
  obtain ⟨c6_1, f6_1, l6_1, n6_1, m6_1⟩ := hb6.facts (b := w1.heap.size) (by (first | omega | (simp only [World.size_alloc, World.size_setCell, size_drewN, World.size_drew] <;> omega))) (by (first | omega | (simp only [World.size_alloc, World.size_setCell, size_drewN, World.size_drew] <;> omega)))
  go_wp2_with fail
  refine (kid_b (N := N) (m := m) (by repeat (first | with_reducible assumption | with_reducible apply Bst.alloc | with_reducible apply Bst.drew | with_reducible apply Bst.drewN | (with_reducible apply Bst.set1; rotate_left; (first | omega | (simp only [World.size_alloc, World.size_setCell, size_drewN, World.size_drew] <;> omega))))) (NdK.stay (Nat.le_refl _) (But.same (lb := bb) (by repeat (first | with_reducible exact But.refl _ _ | with_reducible refine But.alloc ?_ _ | (with_reducible refine But.set1 ?_ ?_ _ _; rotate_left; (first | omega | (simp only [World.size_alloc, World.size_setCell, size_drewN, World.size_drew] <;> omega))) | with_reducible refine But.drew ?_ | with_reducible refine But.drewN ?_ _ | with_reducible refine But.trans ?_ (by assumption))) (by (first | omega | (simp only [World.size_alloc, World.size_setCell, size_drewN, World.size_drew] <;> omega))) (by (first | omega | (simp only [World.size_alloc, World.size_setCell, size_drewN, World.size_drew] <;> omega)))) _ _ hn) 2 c rfl).mono ?_
  rintro e w7 ⟨kv7, rfl, hk7, hs7, hb7⟩
  have z7 := hb7.le
  try simp only [World.size_alloc, World.size_setCell, size_drewN, World.size_drew] at z7
  obtain ⟨c7_0, f7_0, l7_0, n7_0, m7_0⟩ := hb7.facts (b := w.heap.size) (by (first | omega | (simp only [World.size_alloc, World.size_setCell, size_drewN, World.size_drew] <;> omega))) (by (first | omega | (simp only [World.size_alloc, World.size_setCell, size_drewN, World.size_drew] <;> omega)))
  obtain ⟨c7_1, f7_1, l7_1, n7_1, m7_1⟩ := hb7.facts (b := w1.heap.size) (by (first | omega | (simp only [World.size_alloc, World.size_setCell, size_drewN, World.size_drew] <;> omega))) (by (first | omega | (simp only [World.size_alloc, World.size_setCell, size_drewN, World.size_drew] <;> omega)))
  go_wp2_with fail
  refine (Hc.out _ _ N bb m _ hk7 (by repeat (first | with_reducible assumption | with_reducible apply Bst.alloc | with_reducible apply Bst.drew | with_reducible apply Bst.drewN | (with_reducible apply Bst.set1; rotate_left; (first | omega | (simp only [World.size_alloc, World.size_setCell, size_drewN, World.size_drew] <;> omega)))))).mono ?_
  rintro e w8 ⟨v8, rfl, ha8, hs8, hb8⟩
  obtain ⟨p8, rfl, hp8⟩ := ha8.ptr
  have z8 := hb8.le
  try simp only [World.size_alloc, World.size_setCell, size_drewN, World.size_drew] at z8
  obtain ⟨c8_0, f8_0, l8_0, n8_0, m8_0⟩ := hb8.facts (b := w.heap.size) (by (first | omega | (simp only [World.size_alloc, World.size_setCell, size_drewN, World.size_drew] <;> omega))) (by (first | omega | (simp only [World.size_alloc, World.size_setCell, size_drewN, World.size_drew] <;> omega)))
  obtain ⟨c8_1, f8_1, l8_1, n8_1, m8_1⟩ := hb8.facts (b := w1.heap.size) (by (first | omega | (simp only [World.size_alloc, World.size_setCell, size_drewN, World.size_drew] <;> omega))) (by (first | omega | (simp only [World.size_alloc, World.size_setCell, size_drewN, World.size_drew] <;> omega)))
  go_wp2_with fail
  refine (kid_b (N := N) (m := m) (by repeat (first | with_reducible assumption | with_reducible apply Bst.alloc | with_reducible apply Bst.drew | with_reducible apply Bst.drewN | (with_reducible apply Bst.set1; rotate_left; (first | omega | (simp only [World.size_alloc, World.size_setCell, size_drewN, World.size_drew] <;> omega))))) (NdK.stay (Nat.le_refl _) (But.same (lb := bb) (by repeat (first | with_reducible exact But.refl _ _ | with_reducible refine But.alloc ?_ _ | (with_reducible refine But.set1 ?_ ?_ _ _; rotate_left; (first | omega | (simp only [World.size_alloc, World.size_setCell, size_drewN, World.size_drew] <;> omega))) | with_reducible refine But.drew ?_ | with_reducible refine But.drewN ?_ _ | with_reducible refine But.trans ?_ (by assumption))) (by (first | omega | (simp only [World.size_alloc, World.size_setCell, size_drewN, World.size_drew] <;> omega))) (by (first | omega | (simp only [World.size_alloc, World.size_setCell, size_drewN, World.size_drew] <;> omega)))) _ _ hn) 3 d rfl).mono ?_
  rintro e w9 ⟨kv9, rfl, hk9, hs9, hb9⟩
  have z9 := hb9.le
  try simp only [World.size_alloc, World.size_setCell, size_drewN, World.size_drew] at z9
  obtain ⟨c9_0, f9_0, l9_0, n9_0, m9_0⟩ := hb9.facts (b := w.heap.size) (by (first | omega | (simp only [World.size_alloc, World.size_setCell, size_drewN, World.size_drew] <;> omega))) (by (first | omega | (simp only [World.size_alloc, World.size_setCell, size_drewN, World.size_drew] <;> omega)))
  obtain ⟨c9_1, f9_1, l9_1, n9_1, m9_1⟩ := hb9.facts (b := w1.heap.size) (by (first | omega | (simp only [World.size_alloc, World.size_setCell, size_drewN, World.size_drew] <;> omega))) (by (first | omega | (simp only [World.size_alloc, World.size_setCell, size_drewN, World.size_drew] <;> omega)))
  go_wp2_with fail
  refine (Hd.out _ _ N bb m _ hk9 (by repeat (first | with_reducible assumption | with_reducible apply Bst.alloc | with_reducible apply Bst.drew | with_reducible apply Bst.drewN | (with_reducible apply Bst.set1; rotate_left; (first | omega | (simp only [World.size_alloc, World.size_setCell, size_drewN, World.size_drew] <;> omega)))))).mono ?_
  rintro e w10 ⟨p10, rfl, ha10, hs10, hb10⟩
  have z10 := hb10.le
  try simp only [World.size_alloc, World.size_setCell, size_drewN, World.size_drew] at z10
  obtain ⟨c10_0, f10_0, l10_0, n10_0, m10_0⟩ := hb10.facts (b := w.heap.size) (by (first | omega | (simp only [World.size_alloc, World.size_setCell, size_drewN, World.size_drew] <;> omega))) (by (first | omega | (simp only [World.size_alloc, World.size_setCell, size_drewN, World.size_drew] <;> omega)))
  obtain ⟨c10_1, f10_1, l10_1, n10_1, m10_1⟩ := hb10.facts (b := w1.heap.size) (by (first | omega | (simp only [World.size_alloc, World.size_setCell, size_drewN, World.size_drew] <;> omega))) (by (first | omega | (simp only [World.size_alloc, World.size_setCell, size_drewN, World.size_drew] <;> omega)))
  go_wp2_with fail
  go_ret
  unfold EPost
  rw [HV.out]
  unfold mkRange
  dsimp only
  refine ⟨_, rfl, ?_, (by repeat (first | with_reducible assumption | with_reducible apply Bst.alloc | with_reducible apply Bst.drew | with_reducible apply Bst.drewN | (with_reducible apply Bst.set1; rotate_left; (first | omega | (simp only [World.size_alloc, World.size_setCell, size_drewN, World.size_drew] <;> omega))))), (by repeat (first | with_reducible exact But.refl _ _ | with_reducible refine But.alloc ?_ _ | (with_reducible refine But.set1 ?_ ?_ _ _; rotate_left; (first | omega | (simp only [World.size_alloc, World.size_setCell, size_drewN, World.size_drew] <;> omega))) | with_reducible refine But.drew ?_ | with_reducible refine But.drewN ?_ _ | with_reducible refine But.trans ?_ (by assumption)))⟩
  exact At_rangeS.2 ⟨w1.heap.size, rfl, ⟨by (first | omega | (simp only [World.size_alloc, World.size_setCell, size_drewN, World.size_drew] <;> omega)), by (first | omega | (simp only [World.size_alloc, World.size_setCell, size_drewN, World.size_drew] <;> omega))⟩, _, _, _, _, by go_cell, by go_cell, AtO_some.2 (ha3.wide (by repeat (first | with_reducible exact MidI.refl _ _ _ | (with_reducible refine MidI.alloc ?_ ?_ _; rotate_left; (first | omega | (simp only [World.size_alloc, World.size_setCell, size_drewN, World.size_drew] <;> omega))) | (with_reducible refine MidI.set1 ?_ ?_ _ _; rotate_left; (first | omega | (simp only [World.size_alloc, World.size_setCell, size_drewN, World.size_drew] <;> omega))) | with_reducible refine MidI.drew ?_ | with_reducible refine MidI.drewN ?_ _ | (with_reducible refine MidI.but ?_ (by assumption) ?_ ?_; rotate_left; (first | omega | (simp only [World.size_alloc, World.size_setCell, size_drewN, World.size_drew] <;> omega)); (first | omega | (simp only [World.size_alloc, World.size_setCell, size_drewN, World.size_drew] <;> omega))))) (by (first | omega | (simp only [World.size_alloc, World.size_setCell, size_drewN, World.size_drew] <;> omega))) (by (first | omega | (simp only [World.size_alloc, World.size_setCell, size_drewN, World.size_drew] <;> omega)))), by go_cell, AtO_none.2 rfl, by go_cell, by go_cell, by go_cell, by go_cell, ha8.wide (by repeat (first | with_reducible exact MidI.refl _ _ _ | (with_reducible refine MidI.alloc ?_ ?_ _; rotate_left; (first | omega | (simp only [World.size_alloc, World.size_setCell, size_drewN, World.size_drew] <;> omega))) | (with_reducible refine MidI.set1 ?_ ?_ _ _; rotate_left; (first | omega | (simp only [World.size_alloc, World.size_setCell, size_drewN, World.size_drew] <;> omega))) | with_reducible refine MidI.drew ?_ | with_reducible refine MidI.drewN ?_ _ | (with_reducible refine MidI.but ?_ (by assumption) ?_ ?_; rotate_left; (first | omega | (simp only [World.size_alloc, World.size_setCell, size_drewN, World.size_drew] <;> omega)); (first | omega | (simp only [World.size_alloc, World.size_setCell, size_drewN, World.size_drew] <;> omega))))) (by (first | omega | (simp only [World.size_alloc, World.size_setCell, size_drewN, World.size_drew] <;> omega))) (by (first | omega | (simp only [World.size_alloc, World.size_setCell, size_drewN, World.size_drew] <;> omega))), by go_cell, ha10.wide (by repeat (first | with_reducible exact MidI.refl _ _ _ | (with_reducible refine MidI.alloc ?_ ?_ _; rotate_left; (first | omega | (simp only [World.size_alloc, World.size_setCell, size_drewN, World.size_drew] <;> omega))) | (with_reducible refine MidI.set1 ?_ ?_ _ _; rotate_left; (first | omega | (simp only [World.size_alloc, World.size_setCell, size_drewN, World.size_drew] <;> omega))) | with_reducible refine MidI.drew ?_ | with_reducible refine MidI.drewN ?_ _ | (with_reducible refine MidI.but ?_ (by assumption) ?_ ?_; rotate_left; (first | omega | (simp only [World.size_alloc, World.size_setCell, size_drewN, World.size_drew] <;> omega)); (first | omega | (simp only [World.size_alloc, World.size_setCell, size_drewN, World.size_drew] <;> omega))))) (by (first | omega | (simp only [World.size_alloc, World.size_setCell, size_drewN, World.size_drew] <;> omega))) (by (first | omega | (simp only [World.size_alloc, World.size_setCell, size_drewN, World.size_drew] <;> omega)))⟩

set_option maxRecDepth 100000 in
set_option maxHeartbeats 4000000 in
theorem stmt_range2 (t : ByteArray) (a : Nd) (b : Nd) (c : Nd) (d : Nd) (ha : ExprOK a) (hb : ExprOK b) (hc : ExprOK c) (hd : BlockOK d) (ht : (t.toList == []) = false) (hkb : (b.kind.toList == [110, 111, 110, 101]) = false) : StmtOK (.mk ⟨#[114, 97, 110, 103, 101]⟩ t [a, b, c, d]) := by
  intro kv w N bb m l hn hs0
  obtain ⟨ka, cap, hv, -, -⟩ := hn.slice
  subst hv
  have hN1 := hs0.hN
  have hN2 := hs0.hb
  have hN3 := hs0.hm
  have z0 := hs0.sz
  have HV := hide (show bS (.mk ⟨#[114, 97, 110, 103, 101]⟩ t [a, b, c, d]) l = mkRange l (bE a l.tail) ((some (bE b (bE a l.tail).2.tail).1, (bE b (bE a l.tail).2.tail).2) : BO) t (bE c ((some (bE b (bE a l.tail).2.tail).1, (bE b (bE a l.tail).2.tail).2) : BO).2.tail.tail) (bB d (bE c ((some (bE b (bE a l.tail).2.tail).1, (bE b (bE a l.tail).2.tail).2) : BO).2.tail.tail).2) by simp [bS, bEC, optB_hit (hit_of_kind hkb), beq_ne_nil ht])
  have Ha := hide ha
  clear ha
  have Hb := hide hb
  clear hb
  have Hc := hide hc
  clear hc
  have Hd := hide hd
  clear hd
  have hfq := field_kind
  simp only [Nd.kids_mk, Nd.kind_mk, Nd.text_mk, List.length_cons, List.length_nil] at hn ⊢
  go_enter Tryz.func51, Tryz.ntmps51
  go_wp2_with fail
  refine (next_any (N := N) (m := m) (by repeat (first | with_reducible assumption | with_reducible apply Bst.alloc | with_reducible apply Bst.drew | with_reducible apply Bst.drewN | (with_reducible apply Bst.set1; rotate_left; (first | omega | (simp only [World.size_alloc, World.size_setCell, size_drewN, World.size_drew] <;> omega)))))).mono ?_
  rintro e w1 ⟨rfl, hs1, hb1⟩
  have z1 := hb1.le
  try simp only [World.size_alloc, World.size_setCell, size_drewN, World.size_drew] at z1
  obtain ⟨c1_0, f1_0, l1_0, n1_0, m1_0⟩ := hb1.facts (b := w.heap.size) (by (first | omega | (simp only [World.size_alloc, World.size_setCell, size_drewN, World.size_drew] <;> omega))) (by (first | omega | (simp only [World.size_alloc, World.size_setCell, size_drewN, World.size_drew] <;> omega)))
  go_wp2_with fail
  refine (kid_b (N := N) (m := m) (by repeat (first | with_reducible assumption | with_reducible apply Bst.alloc | with_reducible apply Bst.drew | with_reducible apply Bst.drewN | (with_reducible apply Bst.set1; rotate_left; (first | omega | (simp only [World.size_alloc, World.size_setCell, size_drewN, World.size_drew] <;> omega))))) (NdK.stay (Nat.le_refl _) (But.same (lb := bb) (by repeat (first | with_reducible exact But.refl _ _ | with_reducible refine But.alloc ?_ _ | (with_reducible refine But.set1 ?_ ?_ _ _; rotate_left; (first | omega | (simp only [World.size_alloc, World.size_setCell, size_drewN, World.size_drew] <;> omega))) | with_reducible refine But.drew ?_ | with_reducible refine But.drewN ?_ _ | with_reducible refine But.trans ?_ (by assumption))) (by (first | omega | (simp only [World.size_alloc, World.size_setCell, size_drewN, World.size_drew] <;> omega))) (by (first | omega | (simp only [World.size_alloc, World.size_setCell, size_drewN, World.size_drew] <;> omega)))) _ _ hn) 0 a rfl).mono ?_
  rintro e w2 ⟨kv2, rfl, hk2, hs2, hb2⟩
  have z2 := hb2.le
  try simp only [World.size_alloc, World.size_setCell, size_drewN, World.size_drew] at z2
  obtain ⟨c2_0, f2_0, l2_0, n2_0, m2_0⟩ := hb2.facts (b := w.heap.size) (by (first | omega | (simp only [World.size_alloc, World.size_setCell, size_drewN, World.size_drew] <;> omega))) (by (first | omega | (simp only [World.size_alloc, World.size_setCell, size_drewN, World.size_drew] <;> omega)))
  obtain ⟨c2_1, f2_1, l2_1, n2_1, m2_1⟩ := hb2.facts (b := w1.heap.size) (by (first | omega | (simp only [World.size_alloc, World.size_setCell, size_drewN, World.size_drew] <;> omega))) (by (first | omega | (simp only [World.size_alloc, World.size_setCell, size_drewN, World.size_drew] <;> omega)))
  go_wp2_with fail
  refine (Ha.out _ _ N bb m _ hk2 (by repeat (first | with_reducible assumption | with_reducible apply Bst.alloc | with_reducible apply Bst.drew | with_reducible apply Bst.drewN | (with_reducible apply Bst.set1; rotate_left; (first | omega | (simp only [World.size_alloc, World.size_setCell, size_drewN, World.size_drew] <;> omega)))))).mono ?_
  rintro e w3 ⟨v3, rfl, ha3, hs3, hb3⟩
  obtain ⟨p3, rfl, hp3⟩ := ha3.ptr
  have z3 := hb3.le
  try simp only [World.size_alloc, World.size_setCell, size_drewN, World.size_drew] at z3
  obtain ⟨c3_0, f3_0, l3_0, n3_0, m3_0⟩ := hb3.facts (b := w.heap.size) (by (first | omega | (simp only [World.size_alloc, World.size_setCell, size_drewN, World.size_drew] <;> omega))) (by (first | omega | (simp only [World.size_alloc, World.size_setCell, size_drewN, World.size_drew] <;> omega)))
  obtain ⟨c3_1, f3_1, l3_1, n3_1, m3_1⟩ := hb3.facts (b := w1.heap.size) (by (first | omega | (simp only [World.size_alloc, World.size_setCell, size_drewN, World.size_drew] <;> omega))) (by (first | omega | (simp only [World.size_alloc, World.size_setCell, size_drewN, World.size_drew] <;> omega)))
  go_wp2_with fail
  refine (kid_b (N := N) (m := m) (by repeat (first | with_reducible assumption | with_reducible apply Bst.alloc | with_reducible apply Bst.drew | with_reducible apply Bst.drewN | (with_reducible apply Bst.set1; rotate_left; (first | omega | (simp only [World.size_alloc, World.size_setCell, size_drewN, World.size_drew] <;> omega))))) (NdK.stay (Nat.le_refl _) (But.same (lb := bb) (by repeat (first | with_reducible exact But.refl _ _ | with_reducible refine But.alloc ?_ _ | (with_reducible refine But.set1 ?_ ?_ _ _; rotate_left; (first | omega | (simp only [World.size_alloc, World.size_setCell, size_drewN, World.size_drew] <;> omega))) | with_reducible refine But.drew ?_ | with_reducible refine But.drewN ?_ _ | with_reducible refine But.trans ?_ (by assumption))) (by (first | omega | (simp only [World.size_alloc, World.size_setCell, size_drewN, World.size_drew] <;> omega))) (by (first | omega | (simp only [World.size_alloc, World.size_setCell, size_drewN, World.size_drew] <;> omega)))) _ _ hn) 1 b rfl).mono ?_
  rintro e w4 ⟨kv4, rfl, hk4, hs4, hb4⟩
  have z4 := hb4.le
  try simp only [World.size_alloc, World.size_setCell, size_drewN, World.size_drew] at z4
  obtain ⟨c4_0, f4_0, l4_0, n4_0, m4_0⟩ := hb4.facts (b := w.heap.size) (by (first | omega | (simp only [World.size_alloc, World.size_setCell, size_drewN, World.size_drew] <;> omega))) (by (first | omega | (simp only [World.size_alloc, World.size_setCell, size_drewN, World.size_drew] <;> omega)))
  obtain ⟨c4_1, f4_1, l4_1, n4_1, m4_1⟩ := hb4.facts (b := w1.heap.size) (by (first | omega | (simp only [World.size_alloc, World.size_setCell, size_drewN, World.size_drew] <;> omega))) (by (first | omega | (simp only [World.size_alloc, World.size_setCell, size_drewN, World.size_drew] <;> omega)))
  obtain ⟨sa4, sc4, hv4, -, -⟩ := hk4.slice
  subst hv4
  go_wp2_with fail
  refine (next_any (N := N) (m := m) (by repeat (first | with_reducible assumption | with_reducible apply Bst.alloc | with_reducible apply Bst.drew | with_reducible apply Bst.drewN | (with_reducible apply Bst.set1; rotate_left; (first | omega | (simp only [World.size_alloc, World.size_setCell, size_drewN, World.size_drew] <;> omega)))))).mono ?_
  rintro e w5 ⟨rfl, hs5, hb5⟩
  have z5 := hb5.le
  try simp only [World.size_alloc, World.size_setCell, size_drewN, World.size_drew] at z5
  obtain ⟨c5_0, f5_0, l5_0, n5_0, m5_0⟩ := hb5.facts (b := w.heap.size) (by (first | omega | (simp only [World.size_alloc, World.size_setCell, size_drewN, World.size_drew] <;> omega))) (by (first | omega | (simp only [World.size_alloc, World.size_setCell, size_drewN, World.size_drew] <;> omega)))
  obtain ⟨c5_1, f5_1, l5_1, n5_1, m5_1⟩ := hb5.facts (b := w1.heap.size) (by (first | omega | (simp only [World.size_alloc, World.size_setCell, size_drewN, World.size_drew] <;> omega))) (by (first | omega | (simp only [World.size_alloc, World.size_setCell, size_drewN, World.size_drew] <;> omega)))
  go_wp2_with fail
  refine (kid_b (N := N) (m := m) (by repeat (first | with_reducible assumption | with_reducible apply Bst.alloc | with_reducible apply Bst.drew | with_reducible apply Bst.drewN | (with_reducible apply Bst.set1; rotate_left; (first | omega | (simp only [World.size_alloc, World.size_setCell, size_drewN, World.size_drew] <;> omega))))) (NdK.stay (Nat.le_refl _) (But.same (lb := bb) (by repeat (first | with_reducible exact But.refl _ _ | with_reducible refine But.alloc ?_ _ | (with_reducible refine But.set1 ?_ ?_ _ _; rotate_left; (first | omega | (simp only [World.size_alloc, World.size_setCell, size_drewN, World.size_drew] <;> omega))) | with_reducible refine But.drew ?_ | with_reducible refine But.drewN ?_ _ | with_reducible refine But.trans ?_ (by assumption))) (by (first | omega | (simp only [World.size_alloc, World.size_setCell, size_drewN, World.size_drew] <;> omega))) (by (first | omega | (simp only [World.size_alloc, World.size_setCell, size_drewN, World.size_drew] <;> omega)))) _ _ hn) 1 b rfl).mono ?_
  rintro e w6 ⟨kv6, rfl, hk6, hs6, hb6⟩
  have z6 := hb6.le
  try simp only [World.size_alloc, World.size_setCell, size_drewN, World.size_drew] at z6
  obtain ⟨c6_0, f6_0, l6_0, n6_0, m6_0⟩ := hb6.facts (b := w.heap.size) (by (first | omega | (simp only [World.size_alloc, World.size_setCell, size_drewN, World.size_drew] <;> omega))) (by (first | omega | (simp only [World.size_alloc, World.size_setCell, size_drewN, World.size_drew] <;> omega)))
  obtain ⟨c6_1, f6_1, l6_1, n6_1, m6_1⟩ := hb6.facts (b := w1.heap.size) (by (first | omega | (simp only [World.size_alloc, World.size_setCell, size_drewN, World.size_drew] <;> omega))) (by (first | omega | (simp only [World.size_alloc, World.size_setCell, size_drewN, World.size_drew] <;> omega)))
  go_wp2_with fail
  refine (Hb.out _ _ N bb m _ hk6 (by repeat (first | with_reducible assumption | with_reducible apply Bst.alloc | with_reducible apply Bst.drew | with_reducible apply Bst.drewN | (with_reducible apply Bst.set1; rotate_left; (first | omega | (simp only [World.size_alloc, World.size_setCell, size_drewN, World.size_drew] <;> omega)))))).mono ?_
  rintro e w7 ⟨v7, rfl, ha7, hs7, hb7⟩
  obtain ⟨p7, rfl, hp7⟩ := ha7.ptr
  have z7 := hb7.le
  try simp only [World.size_alloc, World.size_setCell, size_drewN, World.size_drew] at z7
  obtain ⟨c7_0, f7_0, l7_0, n7_0, m7_0⟩ := hb7.facts (b := w.heap.size) (by (first | omega | (simp only [World.size_alloc, World.size_setCell, size_drewN, World.size_drew] <;> omega))) (by (first | omega | (simp only [World.size_alloc, World.size_setCell, size_drewN, World.size_drew] <;> omega)))
  obtain ⟨c7_1, f7_1, l7_1, n7_1, m7_1⟩ := hb7.facts (b := w1.heap.size) (by (first | omega | (simp only [World.size_alloc, World.size_setCell, size_drewN, World.size_drew] <;> omega))) (by (first | omega | (simp only [World.size_alloc, World.size_setCell, size_drewN, World.size_drew] <;> omega)))
  go_wp2_with fail
  refine (next_any (N := N) (m := m) (by repeat (first | with_reducible assumption | with_reducible apply Bst.alloc | with_reducible apply Bst.drew | with_reducible apply Bst.drewN | (with_reducible apply Bst.set1; rotate_left; (first | omega | (simp only [World.size_alloc, World.size_setCell, size_drewN, World.size_drew] <;> omega)))))).mono ?_
  rintro e w8 ⟨rfl, hs8, hb8⟩
  have z8 := hb8.le
  try simp only [World.size_alloc, World.size_setCell, size_drewN, World.size_drew] at z8
  obtain ⟨c8_0, f8_0, l8_0, n8_0, m8_0⟩ := hb8.facts (b := w.heap.size) (by (first | omega | (simp only [World.size_alloc, World.size_setCell, size_drewN, World.size_drew] <;> omega))) (by (first | omega | (simp only [World.size_alloc, World.size_setCell, size_drewN, World.size_drew] <;> omega)))
  obtain ⟨c8_1, f8_1, l8_1, n8_1, m8_1⟩ := hb8.facts (b := w1.heap.size) (by (first | omega | (simp only [World.size_alloc, World.size_setCell, size_drewN, World.size_drew] <;> omega))) (by (first | omega | (simp only [World.size_alloc, World.size_setCell, size_drewN, World.size_drew] <;> omega)))
  go_wp2_with fail
  refine (word_b (N := N) (m := m) (by repeat (first | with_reducible assumption | with_reducible apply Bst.alloc | with_reducible apply Bst.drew | with_reducible apply Bst.drewN | (with_reducible apply Bst.set1; rotate_left; (first | omega | (simp only [World.size_alloc, World.size_setCell, size_drewN, World.size_drew] <;> omega))))) _).mono ?_
  rintro e wz ⟨rfl, rfl⟩
  go_wp2_with fail
  refine (next_any (N := N) (m := m) (by repeat (first | with_reducible assumption | with_reducible apply Bst.alloc | with_reducible apply Bst.drew | with_reducible apply Bst.drewN | (with_reducible apply Bst.set1; rotate_left; (first | omega | (simp only [World.size_alloc, World.size_setCell, size_drewN, World.size_drew] <;> omega)))))).mono ?_
  rintro e w9 ⟨rfl, hs9, hb9⟩
  have z9 := hb9.le
  try simp only [World.size_alloc, World.size_setCell, size_drewN, World.size_drew] at z9
  obtain ⟨c9_0, f9_0, l9_0, n9_0, m9_0⟩ := hb9.facts (b := w.heap.size) (by (first | omega | (simp only [World.size_alloc, World.size_setCell, size_drewN, World.size_drew] <;> omega))) (by (first | omega | (simp only [World.size_alloc, World.size_setCell, size_drewN, World.size_drew] <;> omega)))
  obtain ⟨c9_1, f9_1, l9_1, n9_1, m9_1⟩ := hb9.facts (b := w1.heap.size) (by (first | omega | (simp only [World.size_alloc, World.size_setCell, size_drewN, World.size_drew] <;> omega))) (by (first | omega | (simp only [World.size_alloc, World.size_setCell, size_drewN, World.size_drew] <;> omega)))
  go_wp2_with fail
  refine (kid_b (N := N) (m := m) (by repeat (first | with_reducible assumption | with_reducible apply Bst.alloc | with_reducible apply Bst.drew | with_reducible apply Bst.drewN | (with_reducible apply Bst.set1; rotate_left; (first | omega | (simp only [World.size_alloc, World.size_setCell, size_drewN, World.size_drew] <;> omega))))) (NdK.stay (Nat.le_refl _) (But.same (lb := bb) (by repeat (first | with_reducible exact But.refl _ _ | with_reducible refine But.alloc ?_ _ | (with_reducible refine But.set1 ?_ ?_ _ _; rotate_left; (first | omega | (simp only [World.size_alloc, World.size_setCell, size_drewN, World.size_drew] <;> omega))) | with_reducible refine But.drew ?_ | with_reducible refine But.drewN ?_ _ | with_reducible refine But.trans ?_ (by assumption))) (by (first | omega | (simp only [World.size_alloc, World.size_setCell, size_drewN, World.size_drew] <;> omega))) (by (first | omega | (simp only [World.size_alloc, World.size_setCell, size_drewN, World.size_drew] <;> omega)))) _ _ hn) 2 c rfl).mono ?_
  rintro e w10 ⟨kv10, rfl, hk10, hs10, hb10⟩
  have z10 := hb10.le
  try simp only [World.size_alloc, World.size_setCell, size_drewN, World.size_drew] at z10
  obtain ⟨c10_0, f10_0, l10_0, n10_0, m10_0⟩ := hb10.facts (b := w.heap.size) (by (first | omega | (simp only [World.size_alloc, World.size_setCell, size_drewN, World.size_drew] <;> omega))) (by (first | omega | (simp only [World.size_alloc, World.size_setCell, size_drewN, World.size_drew] <;> omega)))
  obtain ⟨c10_1, f10_1, l10_1, n10_1, m10_1⟩ := hb10.facts (b := w1.heap.size) (by (first | omega | (simp only [World.size_alloc, World.size_setCell, size_drewN, World.size_drew] <;> omega))) (by (first | omega | (simp only [World.size_alloc, World.size_setCell, size_drewN, World.size_drew] <;> omega)))
  go_wp2_with fail
  refine (Hc.out _ _ N bb m _ hk10 (by repeat (first | with_reducible assumption | with_reducible apply Bst.alloc | with_reducible apply Bst.drew | with_reducible apply Bst.drewN | (with_reducible apply Bst.set1; rotate_left; (first | omega | (simp only [World.size_alloc, World.size_setCell, size_drewN, World.size_drew] <;> omega)))))).mono ?_
  rintro e w11 ⟨v11, rfl, ha11, hs11, hb11⟩
  obtain ⟨p11, rfl, hp11⟩ := ha11.ptr
  have z11 := hb11.le
  try simp only [World.size_alloc, World.size_setCell, size_drewN, World.size_drew] at z11
  obtain ⟨c11_0, f11_0, l11_0, n11_0, m11_0⟩ := hb11.facts (b := w.heap.size) (by (first | omega | (simp only [World.size_alloc, World.size_setCell, size_drewN, World.size_drew] <;> omega))) (by (first | omega | (simp only [World.size_alloc, World.size_setCell, size_drewN, World.size_drew] <;> omega)))
  obtain ⟨c11_1, f11_1, l11_1, n11_1, m11_1⟩ := hb11.facts (b := w1.heap.size) (by (first | omega | (simp only [World.size_alloc, World.size_setCell, size_drewN, World.size_drew] <;> omega))) (by (first | omega | (simp only [World.size_alloc, World.size_setCell, size_drewN, World.size_drew] <;> omega)))
  go_wp2_with fail
  refine (kid_b (N := N) (m := m) (by repeat (first | with_reducible assumption | with_reducible apply Bst.alloc | with_reducible apply Bst.drew | with_reducible apply Bst.drewN | (with_reducible apply Bst.set1; rotate_left; (first | omega | (simp only [World.size_alloc, World.size_setCell, size_drewN, World.size_drew] <;> omega))))) (NdK.stay (Nat.le_refl _) (But.same (lb := bb) (by repeat (first | with_reducible exact But.refl _ _ | with_reducible refine But.alloc ?_ _ | (with_reducible refine But.set1 ?_ ?_ _ _; rotate_left; (first | omega | (simp only [World.size_alloc, World.size_setCell, size_drewN, World.size_drew] <;> omega))) | with_reducible refine But.drew ?_ | with_reducible refine But.drewN ?_ _ | with_reducible refine But.trans ?_ (by assumption))) (by (first | omega | (simp only [World.size_alloc, World.size_setCell, size_drewN, World.size_drew] <;> omega))) (by (first | omega | (simp only [World.size_alloc, World.size_setCell, size_drewN, World.size_drew] <;> omega)))) _ _ hn) 3 d rfl).mono ?_
  rintro e w12 ⟨kv12, rfl, hk12, hs12, hb12⟩
  have z12 := hb12.le
  try simp only [World.size_alloc, World.size_setCell, size_drewN, World.size_drew] at z12
  obtain ⟨c12_0, f12_0, l12_0, n12_0, m12_0⟩ := hb12.facts (b := w.heap.size) (by (first | omega | (simp only [World.size_alloc, World.size_setCell, size_drewN, World.size_drew] <;> omega))) (by (first | omega | (simp only [World.size_alloc, World.size_setCell, size_drewN, World.size_drew] <;> omega)))
  obtain ⟨c12_1, f12_1, l12_1, n12_1, m12_1⟩ := hb12.facts (b := w1.heap.size) (by (first | omega | (simp only [World.size_alloc, World.size_setCell, size_drewN, World.size_drew] <;> omega))) (by (first | omega | (simp only [World.size_alloc, World.size_setCell, size_drewN, World.size_drew] <;> omega)))
  go_wp2_with fail
  refine (Hd.out _ _ N bb m _ hk12 (by repeat (first | with_reducible assumption | with_reducible apply Bst.alloc | with_reducible apply Bst.drew | with_reducible apply Bst.drewN | (with_reducible apply Bst.set1; rotate_left; (first | omega | (simp only [World.size_alloc, World.size_setCell, size_drewN, World.size_drew] <;> omega)))))).mono ?_
  rintro e w13 ⟨p13, rfl, ha13, hs13, hb13⟩
  have z13 := hb13.le
  try simp only [World.size_alloc, World.size_setCell, size_drewN, World.size_drew] at z13
  obtain ⟨c13_0, f13_0, l13_0, n13_0, m13_0⟩ := hb13.facts (b := w.heap.size) (by (first | omega | (simp only [World.size_alloc, World.size_setCell, size_drewN, World.size_drew] <;> omega))) (by (first | omega | (simp only [World.size_alloc, World.size_setCell, size_drewN, World.size_drew] <;> omega)))
  obtain ⟨c13_1, f13_1, l13_1, n13_1, m13_1⟩ := hb13.facts (b := w1.heap.size) (by (first | omega | (simp only [World.size_alloc, World.size_setCell, size_drewN, World.size_drew] <;> omega))) (by (first | omega | (simp only [World.size_alloc, World.size_setCell, size_drewN, World.size_drew] <;> omega)))
  go_wp2_with fail
  go_ret
  unfold EPost
  rw [HV.out]
  unfold mkRange
  dsimp only
  refine ⟨_, rfl, ?_, (by repeat (first | with_reducible assumption | with_reducible apply Bst.alloc | with_reducible apply Bst.drew | with_reducible apply Bst.drewN | (with_reducible apply Bst.set1; rotate_left; (first | omega | (simp only [World.size_alloc, World.size_setCell, size_drewN, World.size_drew] <;> omega))))), (by repeat (first | with_reducible exact But.refl _ _ | with_reducible refine But.alloc ?_ _ | (with_reducible refine But.set1 ?_ ?_ _ _; rotate_left; (first | omega | (simp only [World.size_alloc, World.size_setCell, size_drewN, World.size_drew] <;> omega))) | with_reducible refine But.drew ?_ | with_reducible refine But.drewN ?_ _ | with_reducible refine But.trans ?_ (by assumption)))⟩
  exact At_rangeS.2 ⟨w1.heap.size, rfl, ⟨by (first | omega | (simp only [World.size_alloc, World.size_setCell, size_drewN, World.size_drew] <;> omega)), by (first | omega | (simp only [World.size_alloc, World.size_setCell, size_drewN, World.size_drew] <;> omega))⟩, _, _, _, _, by go_cell, by go_cell, AtO_some.2 (ha3.wide (by repeat (first | with_reducible exact MidI.refl _ _ _ | (with_reducible refine MidI.alloc ?_ ?_ _; rotate_left; (first | omega | (simp only [World.size_alloc, World.size_setCell, size_drewN, World.size_drew] <;> omega))) | (with_reducible refine MidI.set1 ?_ ?_ _ _; rotate_left; (first | omega | (simp only [World.size_alloc, World.size_setCell, size_drewN, World.size_drew] <;> omega))) | with_reducible refine MidI.drew ?_ | with_reducible refine MidI.drewN ?_ _ | (with_reducible refine MidI.but ?_ (by assumption) ?_ ?_; rotate_left; (first | omega | (simp only [World.size_alloc, World.size_setCell, size_drewN, World.size_drew] <;> omega)); (first | omega | (simp only [World.size_alloc, World.size_setCell, size_drewN, World.size_drew] <;> omega))))) (by (first | omega | (simp only [World.size_alloc, World.size_setCell, size_drewN, World.size_drew] <;> omega))) (by (first | omega | (simp only [World.size_alloc, World.size_setCell, size_drewN, World.size_drew] <;> omega)))), by go_cell, AtO_some.2 (ha7.wide (by repeat (first | with_reducible exact MidI.refl _ _ _ | (with_reducible refine MidI.alloc ?_ ?_ _; rotate_left; (first | omega | (simp only [World.size_alloc, World.size_setCell, size_drewN, World.size_drew] <;> omega))) | (with_reducible refine MidI.set1 ?_ ?_ _ _; rotate_left; (first | omega | (simp only [World.size_alloc, World.size_setCell, size_drewN, World.size_drew] <;> omega))) | with_reducible refine MidI.drew ?_ | with_reducible refine MidI.drewN ?_ _ | (with_reducible refine MidI.but ?_ (by assumption) ?_ ?_; rotate_left; (first | omega | (simp only [World.size_alloc, World.size_setCell, size_drewN, World.size_drew] <;> omega)); (first | omega | (simp only [World.size_alloc, World.size_setCell, size_drewN, World.size_drew] <;> omega))))) (by (first | omega | (simp only [World.size_alloc, World.size_setCell, size_drewN, World.size_drew] <;> omega))) (by (first | omega | (simp only [World.size_alloc, World.size_setCell, size_drewN, World.size_drew] <;> omega)))), by go_cell, by go_cell, by go_cell, by go_cell, ha11.wide (by repeat (first | with_reducible exact MidI.refl _ _ _ | (with_reducible refine MidI.alloc ?_ ?_ _; rotate_left; (first | omega | (simp only [World.size_alloc, World.size_setCell, size_drewN, World.size_drew] <;> omega))) | (with_reducible refine MidI.set1 ?_ ?_ _ _; rotate_left; (first | omega | (simp only [World.size_alloc, World.size_setCell, size_drewN, World.size_drew] <;> omega))) | with_reducible refine MidI.drew ?_ | with_reducible refine MidI.drewN ?_ _ | (with_reducible refine MidI.but ?_ (by assumption) ?_ ?_; rotate_left; (first | omega | (simp only [World.size_alloc, World.size_setCell, size_drewN, World.size_drew] <;> omega)); (first | omega | (simp only [World.size_alloc, World.size_setCell, size_drewN, World.size_drew] <;> omega))))) (by (first | omega | (simp only [World.size_alloc, World.size_setCell, size_drewN, World.size_drew] <;> omega))) (by (first | omega | (simp only [World.size_alloc, World.size_setCell, size_drewN, World.size_drew] <;> omega))), by go_cell, ha13.wide (by repeat (first | with_reducible exact MidI.refl _ _ _ | (with_reducible refine MidI.alloc ?_ ?_ _; rotate_left; (first | omega | (simp only [World.size_alloc, World.size_setCell, size_drewN, World.size_drew] <;> omega))) | (with_reducible refine MidI.set1 ?_ ?_ _ _; rotate_left; (first | omega | (simp only [World.size_alloc, World.size_setCell, size_drewN, World.size_drew] <;> omega))) | with_reducible refine MidI.drew ?_ | with_reducible refine MidI.drewN ?_ _ | (with_reducible refine MidI.but ?_ (by assumption) ?_ ?_; rotate_left; (first | omega | (simp only [World.size_alloc, World.size_setCell, size_drewN, World.size_drew] <;> omega)); (first | omega | (simp only [World.size_alloc, World.size_setCell, size_drewN, World.size_drew] <;> omega))))) (by (first | omega | (simp only [World.size_alloc, World.size_setCell, size_drewN, World.size_drew] <;> omega))) (by (first | omega | (simp only [World.size_alloc, World.size_setCell, size_drewN, World.size_drew] <;> omega)))⟩

set_option maxRecDepth 100000 in
set_option maxHeartbeats 4000000 in
theorem stmt_switch (t : ByteArray) (a : Nd) (b : Nd) (c : Nd) (ha : StmtO a) (hb : ExprO b) (hc : ClsOK false c) : StmtOK (.mk ⟨#[115, 119, 105, 116, 99, 104]⟩ t [a, b, c]) := by
  intro kv w N bb m l hn hs0
  obtain ⟨ka, cap, hv, -, -⟩ := hn.slice
  subst hv
  have hN1 := hs0.hN
  have hN2 := hs0.hb
  have hN3 := hs0.hm
  have z0 := hs0.sz
  have HV := hide (show bS (.mk ⟨#[115, 119, 105, 116, 99, 104]⟩ t [a, b, c]) l = mkSwitch l (optB a l.tail (bS a l.tail)) (bEO b (optB a l.tail (bS a l.tail)).2) (bC false c (bEO b (optB a l.tail (bS a l.tail)).2).2) by simp [bS])
  have Ha := hide ha
  clear ha
  have Hb := hide hb
  clear hb
  have Hc := hide hc
  clear hc
  simp only [Nd.kids_mk, Nd.kind_mk, Nd.text_mk, List.length_cons, List.length_nil] at hn ⊢
  go_enter Tryz.func51, Tryz.ntmps51
  go_wp2_with fail
  refine (next_any (N := N) (m := m) (by repeat (first | with_reducible assumption | with_reducible apply Bst.alloc | with_reducible apply Bst.drew | with_reducible apply Bst.drewN | (with_reducible apply Bst.set1; rotate_left; (first | omega | (simp only [World.size_alloc, World.size_setCell, size_drewN, World.size_drew] <;> omega)))))).mono ?_
  rintro e w1 ⟨rfl, hs1, hb1⟩
  have z1 := hb1.le
  try simp only [World.size_alloc, World.size_setCell, size_drewN, World.size_drew] at z1
  obtain ⟨c1_0, f1_0, l1_0, n1_0, m1_0⟩ := hb1.facts (b := w.heap.size) (by (first | omega | (simp only [World.size_alloc, World.size_setCell, size_drewN, World.size_drew] <;> omega))) (by (first | omega | (simp only [World.size_alloc, World.size_setCell, size_drewN, World.size_drew] <;> omega)))
  go_wp2_with fail
  refine (kid_b (N := N) (m := m) (by repeat (first | with_reducible assumption | with_reducible apply Bst.alloc | with_reducible apply Bst.drew | with_reducible apply Bst.drewN | (with_reducible apply Bst.set1; rotate_left; (first | omega | (simp only [World.size_alloc, World.size_setCell, size_drewN, World.size_drew] <;> omega))))) (NdK.stay (Nat.le_refl _) (But.same (lb := bb) (by repeat (first | with_reducible exact But.refl _ _ | with_reducible refine But.alloc ?_ _ | (with_reducible refine But.set1 ?_ ?_ _ _; rotate_left; (first | omega | (simp only [World.size_alloc, World.size_setCell, size_drewN, World.size_drew] <;> omega))) | with_reducible refine But.drew ?_ | with_reducible refine But.drewN ?_ _ | with_reducible refine But.trans ?_ (by assumption))) (by (first | omega | (simp only [World.size_alloc, World.size_setCell, size_drewN, World.size_drew] <;> omega))) (by (first | omega | (simp only [World.size_alloc, World.size_setCell, size_drewN, World.size_drew] <;> omega)))) _ _ hn) 0 a rfl).mono ?_
  rintro e w2 ⟨kv2, rfl, hk2, hs2, hb2⟩
  have z2 := hb2.le
  try simp only [World.size_alloc, World.size_setCell, size_drewN, World.size_drew] at z2
  obtain ⟨c2_0, f2_0, l2_0, n2_0, m2_0⟩ := hb2.facts (b := w.heap.size) (by (first | omega | (simp only [World.size_alloc, World.size_setCell, size_drewN, World.size_drew] <;> omega))) (by (first | omega | (simp only [World.size_alloc, World.size_setCell, size_drewN, World.size_drew] <;> omega)))
  obtain ⟨c2_1, f2_1, l2_1, n2_1, m2_1⟩ := hb2.facts (b := w1.heap.size) (by (first | omega | (simp only [World.size_alloc, World.size_setCell, size_drewN, World.size_drew] <;> omega))) (by (first | omega | (simp only [World.size_alloc, World.size_setCell, size_drewN, World.size_drew] <;> omega)))
  go_wp2_with fail
  refine (Ha.out _ _ N bb m _ hk2 (by repeat (first | with_reducible assumption | with_reducible apply Bst.alloc | with_reducible apply Bst.drew | with_reducible apply Bst.drewN | (with_reducible apply Bst.set1; rotate_left; (first | omega | (simp only [World.size_alloc, World.size_setCell, size_drewN, World.size_drew] <;> omega)))))).mono ?_
  rintro e w3 ⟨v3, rfl, ho3, ha3, hs3, hb3⟩
  have z3 := hb3.le
  try simp only [World.size_alloc, World.size_setCell, size_drewN, World.size_drew] at z3
  obtain ⟨c3_0, f3_0, l3_0, n3_0, m3_0⟩ := hb3.facts (b := w.heap.size) (by (first | omega | (simp only [World.size_alloc, World.size_setCell, size_drewN, World.size_drew] <;> omega))) (by (first | omega | (simp only [World.size_alloc, World.size_setCell, size_drewN, World.size_drew] <;> omega)))
  obtain ⟨c3_1, f3_1, l3_1, n3_1, m3_1⟩ := hb3.facts (b := w1.heap.size) (by (first | omega | (simp only [World.size_alloc, World.size_setCell, size_drewN, World.size_drew] <;> omega))) (by (first | omega | (simp only [World.size_alloc, World.size_setCell, size_drewN, World.size_drew] <;> omega)))
  go_wp2_with fail
  rw [stores_at ho3 (W := w3) (b := w1.heap.size) (o := 1) .nilIface (by first | go_cell | simp [c3_1]) (by simp [f2_1, f3_1])]
  go_wp2_with fail
  refine (kid_b (N := N) (m := m) (by repeat (first | with_reducible assumption | with_reducible apply Bst.alloc | with_reducible apply Bst.drew | with_reducible apply Bst.drewN | (with_reducible apply Bst.set1; rotate_left; (first | omega | (simp only [World.size_alloc, World.size_setCell, size_drewN, World.size_drew] <;> omega))))) (NdK.stay (Nat.le_refl _) (But.same (lb := bb) (by repeat (first | with_reducible exact But.refl _ _ | with_reducible refine But.alloc ?_ _ | (with_reducible refine But.set1 ?_ ?_ _ _; rotate_left; (first | omega | (simp only [World.size_alloc, World.size_setCell, size_drewN, World.size_drew] <;> omega))) | with_reducible refine But.drew ?_ | with_reducible refine But.drewN ?_ _ | with_reducible refine But.trans ?_ (by assumption))) (by (first | omega | (simp only [World.size_alloc, World.size_setCell, size_drewN, World.size_drew] <;> omega))) (by (first | omega | (simp only [World.size_alloc, World.size_setCell, size_drewN, World.size_drew] <;> omega)))) _ _ hn) 1 b rfl).mono ?_
  rintro e w4 ⟨kv4, rfl, hk4, hs4, hb4⟩
  have z4 := hb4.le
  try simp only [World.size_alloc, World.size_setCell, size_drewN, World.size_drew] at z4
  obtain ⟨c4_0, f4_0, l4_0, n4_0, m4_0⟩ := hb4.facts (b := w.heap.size) (by (first | omega | (simp only [World.size_alloc, World.size_setCell, size_drewN, World.size_drew] <;> omega))) (by (first | omega | (simp only [World.size_alloc, World.size_setCell, size_drewN, World.size_drew] <;> omega)))
  obtain ⟨c4_1, f4_1, l4_1, n4_1, m4_1⟩ := hb4.facts (b := w1.heap.size) (by (first | omega | (simp only [World.size_alloc, World.size_setCell, size_drewN, World.size_drew] <;> omega))) (by (first | omega | (simp only [World.size_alloc, World.size_setCell, size_drewN, World.size_drew] <;> omega)))
  go_wp2_with fail
  refine (Hb.out _ _ N bb m _ hk4 (by repeat (first | with_reducible assumption | with_reducible apply Bst.alloc | with_reducible apply Bst.drew | with_reducible apply Bst.drewN | (with_reducible apply Bst.set1; rotate_left; (first | omega | (simp only [World.size_alloc, World.size_setCell, size_drewN, World.size_drew] <;> omega)))))).mono ?_
  rintro e w5 ⟨v5, rfl, ho5, ha5, hs5, hb5⟩
  have z5 := hb5.le
  try simp only [World.size_alloc, World.size_setCell, size_drewN, World.size_drew] at z5
  obtain ⟨c5_0, f5_0, l5_0, n5_0, m5_0⟩ := hb5.facts (b := w.heap.size) (by (first | omega | (simp only [World.size_alloc, World.size_setCell, size_drewN, World.size_drew] <;> omega))) (by (first | omega | (simp only [World.size_alloc, World.size_setCell, size_drewN, World.size_drew] <;> omega)))
  obtain ⟨c5_1, f5_1, l5_1, n5_1, m5_1⟩ := hb5.facts (b := w1.heap.size) (by (first | omega | (simp only [World.size_alloc, World.size_setCell, size_drewN, World.size_drew] <;> omega))) (by (first | omega | (simp only [World.size_alloc, World.size_setCell, size_drewN, World.size_drew] <;> omega)))
  go_wp2_with fail
  rw [stores_at ho5 (W := w5) (b := w1.heap.size) (o := 2) .nilIface (by first | go_cell | simp [c5_1]) (by simp [f2_1, f3_1, f4_1, f5_1])]
  go_wp2_with fail
  refine (kid_b (N := N) (m := m) (by repeat (first | with_reducible assumption | with_reducible apply Bst.alloc | with_reducible apply Bst.drew | with_reducible apply Bst.drewN | (with_reducible apply Bst.set1; rotate_left; (first | omega | (simp only [World.size_alloc, World.size_setCell, size_drewN, World.size_drew] <;> omega))))) (NdK.stay (Nat.le_refl _) (But.same (lb := bb) (by repeat (first | with_reducible exact But.refl _ _ | with_reducible refine But.alloc ?_ _ | (with_reducible refine But.set1 ?_ ?_ _ _; rotate_left; (first | omega | (simp only [World.size_alloc, World.size_setCell, size_drewN, World.size_drew] <;> omega))) | with_reducible refine But.drew ?_ | with_reducible refine But.drewN ?_ _ | with_reducible refine But.trans ?_ (by assumption))) (by (first | omega | (simp only [World.size_alloc, World.size_setCell, size_drewN, World.size_drew] <;> omega))) (by (first | omega | (simp only [World.size_alloc, World.size_setCell, size_drewN, World.size_drew] <;> omega)))) _ _ hn) 2 c rfl).mono ?_
  rintro e w6 ⟨kv6, rfl, hk6, hs6, hb6⟩
  have z6 := hb6.le
  try simp only [World.size_alloc, World.size_setCell, size_drewN, World.size_drew] at z6
  obtain ⟨c6_0, f6_0, l6_0, n6_0, m6_0⟩ := hb6.facts (b := w.heap.size) (by (first | omega | (simp only [World.size_alloc, World.size_setCell, size_drewN, World.size_drew] <;> omega))) (by (first | omega | (simp only [World.size_alloc, World.size_setCell, size_drewN, World.size_drew] <;> omega)))
  obtain ⟨c6_1, f6_1, l6_1, n6_1, m6_1⟩ := hb6.facts (b := w1.heap.size) (by (first | omega | (simp only [World.size_alloc, World.size_setCell, size_drewN, World.size_drew] <;> omega))) (by (first | omega | (simp only [World.size_alloc, World.size_setCell, size_drewN, World.size_drew] <;> omega)))
  go_wp2_with fail
  refine (Hc.out _ _ N bb m _ hk6 (by repeat (first | with_reducible assumption | with_reducible apply Bst.alloc | with_reducible apply Bst.drew | with_reducible apply Bst.drewN | (with_reducible apply Bst.set1; rotate_left; (first | omega | (simp only [World.size_alloc, World.size_setCell, size_drewN, World.size_drew] <;> omega)))))).mono ?_
  rintro e w7 ⟨p7, rfl, ha7, hs7, hb7⟩
  have z7 := hb7.le
  try simp only [World.size_alloc, World.size_setCell, size_drewN, World.size_drew] at z7
  obtain ⟨c7_0, f7_0, l7_0, n7_0, m7_0⟩ := hb7.facts (b := w.heap.size) (by (first | omega | (simp only [World.size_alloc, World.size_setCell, size_drewN, World.size_drew] <;> omega))) (by (first | omega | (simp only [World.size_alloc, World.size_setCell, size_drewN, World.size_drew] <;> omega)))
  obtain ⟨c7_1, f7_1, l7_1, n7_1, m7_1⟩ := hb7.facts (b := w1.heap.size) (by (first | omega | (simp only [World.size_alloc, World.size_setCell, size_drewN, World.size_drew] <;> omega))) (by (first | omega | (simp only [World.size_alloc, World.size_setCell, size_drewN, World.size_drew] <;> omega)))
  go_wp2_with fail
  go_ret
  unfold EPost
  rw [HV.out]
  unfold mkSwitch
  dsimp only
  refine ⟨_, rfl, ?_, (by repeat (first | with_reducible assumption | with_reducible apply Bst.alloc | with_reducible apply Bst.drew | with_reducible apply Bst.drewN | (with_reducible apply Bst.set1; rotate_left; (first | omega | (simp only [World.size_alloc, World.size_setCell, size_drewN, World.size_drew] <;> omega))))), (by repeat (first | with_reducible exact But.refl _ _ | with_reducible refine But.alloc ?_ _ | (with_reducible refine But.set1 ?_ ?_ _ _; rotate_left; (first | omega | (simp only [World.size_alloc, World.size_setCell, size_drewN, World.size_drew] <;> omega))) | with_reducible refine But.drew ?_ | with_reducible refine But.drewN ?_ _ | with_reducible refine But.trans ?_ (by assumption)))⟩
  exact At_switchS.2 ⟨w1.heap.size, rfl, ⟨by (first | omega | (simp only [World.size_alloc, World.size_setCell, size_drewN, World.size_drew] <;> omega)), by (first | omega | (simp only [World.size_alloc, World.size_setCell, size_drewN, World.size_drew] <;> omega))⟩, _, _, _, by go_cell, by go_cell, ha3.wide (by repeat (first | with_reducible exact MidI.refl _ _ _ | (with_reducible refine MidI.alloc ?_ ?_ _; rotate_left; (first | omega | (simp only [World.size_alloc, World.size_setCell, size_drewN, World.size_drew] <;> omega))) | (with_reducible refine MidI.set1 ?_ ?_ _ _; rotate_left; (first | omega | (simp only [World.size_alloc, World.size_setCell, size_drewN, World.size_drew] <;> omega))) | with_reducible refine MidI.drew ?_ | with_reducible refine MidI.drewN ?_ _ | (with_reducible refine MidI.but ?_ (by assumption) ?_ ?_; rotate_left; (first | omega | (simp only [World.size_alloc, World.size_setCell, size_drewN, World.size_drew] <;> omega)); (first | omega | (simp only [World.size_alloc, World.size_setCell, size_drewN, World.size_drew] <;> omega))))) (by (first | omega | (simp only [World.size_alloc, World.size_setCell, size_drewN, World.size_drew] <;> omega))) (by (first | omega | (simp only [World.size_alloc, World.size_setCell, size_drewN, World.size_drew] <;> omega))), by go_cell, ha5.wide (by repeat (first | with_reducible exact MidI.refl _ _ _ | (with_reducible refine MidI.alloc ?_ ?_ _; rotate_left; (first | omega | (simp only [World.size_alloc, World.size_setCell, size_drewN, World.size_drew] <;> omega))) | (with_reducible refine MidI.set1 ?_ ?_ _ _; rotate_left; (first | omega | (simp only [World.size_alloc, World.size_setCell, size_drewN, World.size_drew] <;> omega))) | with_reducible refine MidI.drew ?_ | with_reducible refine MidI.drewN ?_ _ | (with_reducible refine MidI.but ?_ (by assumption) ?_ ?_; rotate_left; (first | omega | (simp only [World.size_alloc, World.size_setCell, size_drewN, World.size_drew] <;> omega)); (first | omega | (simp only [World.size_alloc, World.size_setCell, size_drewN, World.size_drew] <;> omega))))) (by (first | omega | (simp only [World.size_alloc, World.size_setCell, size_drewN, World.size_drew] <;> omega))) (by (first | omega | (simp only [World.size_alloc, World.size_setCell, size_drewN, World.size_drew] <;> omega))), by go_cell, ha7.wide (by repeat (first | with_reducible exact MidI.refl _ _ _ | (with_reducible refine MidI.alloc ?_ ?_ _; rotate_left; (first | omega | (simp only [World.size_alloc, World.size_setCell, size_drewN, World.size_drew] <;> omega))) | (with_reducible refine MidI.set1 ?_ ?_ _ _; rotate_left; (first | omega | (simp only [World.size_alloc, World.size_setCell, size_drewN, World.size_drew] <;> omega))) | with_reducible refine MidI.drew ?_ | with_reducible refine MidI.drewN ?_ _ | (with_reducible refine MidI.but ?_ (by assumption) ?_ ?_; rotate_left; (first | omega | (simp only [World.size_alloc, World.size_setCell, size_drewN, World.size_drew] <;> omega)); (first | omega | (simp only [World.size_alloc, World.size_setCell, size_drewN, World.size_drew] <;> omega))))) (by (first | omega | (simp only [World.size_alloc, World.size_setCell, size_drewN, World.size_drew] <;> omega))) (by (first | omega | (simp only [World.size_alloc, World.size_setCell, size_drewN, World.size_drew] <;> omega)))⟩

set_option maxRecDepth 100000 in
set_option maxHeartbeats 4000000 in
theorem stmt_types (t : ByteArray) (a : Nd) (b : Nd) (c : Nd) (ha : StmtO a) (hb : StmtOK b) (hc : ClsOK false c) : StmtOK (.mk ⟨#[116, 121, 112, 101, 115]⟩ t [a, b, c]) := by
  intro kv w N bb m l hn hs0
  obtain ⟨ka, cap, hv, -, -⟩ := hn.slice
  subst hv
  have hN1 := hs0.hN
  have hN2 := hs0.hb
  have hN3 := hs0.hm
  have z0 := hs0.sz
  have HV := hide (show bS (.mk ⟨#[116, 121, 112, 101, 115]⟩ t [a, b, c]) l = mkTypes l (optB a l.tail (bS a l.tail)) (bS b (optB a l.tail (bS a l.tail)).2) (bC false c (bS b (optB a l.tail (bS a l.tail)).2).2) by simp [bS])
  have Ha := hide ha
  clear ha
  have Hb := hide hb
  clear hb
  have Hc := hide hc
  clear hc
  simp only [Nd.kids_mk, Nd.kind_mk, Nd.text_mk, List.length_cons, List.length_nil] at hn ⊢
  go_enter Tryz.func51, Tryz.ntmps51
  go_wp2_with fail
  refine (next_any (N := N) (m := m) (by repeat (first | with_reducible assumption | with_reducible apply Bst.alloc | with_reducible apply Bst.drew | with_reducible apply Bst.drewN | (with_reducible apply Bst.set1; rotate_left; (first | omega | (simp only [World.size_alloc, World.size_setCell, size_drewN, World.size_drew] <;> omega)))))).mono ?_
  rintro e w1 ⟨rfl, hs1, hb1⟩
  have z1 := hb1.le
  try simp only [World.size_alloc, World.size_setCell, size_drewN, World.size_drew] at z1
  obtain ⟨c1_0, f1_0, l1_0, n1_0, m1_0⟩ := hb1.facts (b := w.heap.size) (by (first | omega | (simp only [World.size_alloc, World.size_setCell, size_drewN, World.size_drew] <;> omega))) (by (first | omega | (simp only [World.size_alloc, World.size_setCell, size_drewN, World.size_drew] <;> omega)))
  go_wp2_with fail
  refine (kid_b (N := N) (m := m) (by repeat (first | with_reducible assumption | with_reducible apply Bst.alloc | with_reducible apply Bst.drew | with_reducible apply Bst.drewN | (with_reducible apply Bst.set1; rotate_left; (first | omega | (simp only [World.size_alloc, World.size_setCell, size_drewN, World.size_drew] <;> omega))))) (NdK.stay (Nat.le_refl _) (But.same (lb := bb) (by repeat (first | with_reducible exact But.refl _ _ | with_reducible refine But.alloc ?_ _ | (with_reducible refine But.set1 ?_ ?_ _ _; rotate_left; (first | omega | (simp only [World.size_alloc, World.size_setCell, size_drewN, World.size_drew] <;> omega))) | with_reducible refine But.drew ?_ | with_reducible refine But.drewN ?_ _ | with_reducible refine But.trans ?_ (by assumption))) (by (first | omega | (simp only [World.size_alloc, World.size_setCell, size_drewN, World.size_drew] <;> omega))) (by (first | omega | (simp only [World.size_alloc, World.size_setCell, size_drewN, World.size_drew] <;> omega)))) _ _ hn) 0 a rfl).mono ?_
  rintro e w2 ⟨kv2, rfl, hk2, hs2, hb2⟩
  have z2 := hb2.le
  try simp only [World.size_alloc, World.size_setCell, size_drewN, World.size_drew] at z2
  obtain ⟨c2_0, f2_0, l2_0, n2_0, m2_0⟩ := hb2.facts (b := w.heap.size) (by (first | omega | (simp only [World.size_alloc, World.size_setCell, size_drewN, World.size_drew] <;> omega))) (by (first | omega | (simp only [World.size_alloc, World.size_setCell, size_drewN, World.size_drew] <;> omega)))
  obtain ⟨c2_1, f2_1, l2_1, n2_1, m2_1⟩ := hb2.facts (b := w1.heap.size) (by (first | omega | (simp only [World.size_alloc, World.size_setCell, size_drewN, World.size_drew] <;> omega))) (by (first | omega | (simp only [World.size_alloc, World.size_setCell, size_drewN, World.size_drew] <;> omega)))
  go_wp2_with fail
  refine (Ha.out _ _ N bb m _ hk2 (by repeat (first | with_reducible assumption | with_reducible apply Bst.alloc | with_reducible apply Bst.drew | with_reducible apply Bst.drewN | (with_reducible apply Bst.set1; rotate_left; (first | omega | (simp only [World.size_alloc, World.size_setCell, size_drewN, World.size_drew] <;> omega)))))).mono ?_
  rintro e w3 ⟨v3, rfl, ho3, ha3, hs3, hb3⟩
  have z3 := hb3.le
  try simp only [World.size_alloc, World.size_setCell, size_drewN, World.size_drew] at z3
  obtain ⟨c3_0, f3_0, l3_0, n3_0, m3_0⟩ := hb3.facts (b := w.heap.size) (by (first | omega | (simp only [World.size_alloc, World.size_setCell, size_drewN, World.size_drew] <;> omega))) (by (first | omega | (simp only [World.size_alloc, World.size_setCell, size_drewN, World.size_drew] <;> omega)))
  obtain ⟨c3_1, f3_1, l3_1, n3_1, m3_1⟩ := hb3.facts (b := w1.heap.size) (by (first | omega | (simp only [World.size_alloc, World.size_setCell, size_drewN, World.size_drew] <;> omega))) (by (first | omega | (simp only [World.size_alloc, World.size_setCell, size_drewN, World.size_drew] <;> omega)))
  go_wp2_with fail
  rw [stores_at ho3 (W := w3) (b := w1.heap.size) (o := 1) .nilIface (by first | go_cell | simp [c3_1]) (by simp [f2_1, f3_1])]
  go_wp2_with fail
  refine (kid_b (N := N) (m := m) (by repeat (first | with_reducible assumption | with_reducible apply Bst.alloc | with_reducible apply Bst.drew | with_reducible apply Bst.drewN | (with_reducible apply Bst.set1; rotate_left; (first | omega | (simp only [World.size_alloc, World.size_setCell, size_drewN, World.size_drew] <;> omega))))) (NdK.stay (Nat.le_refl _) (But.same (lb := bb) (by repeat (first | with_reducible exact But.refl _ _ | with_reducible refine But.alloc ?_ _ | (with_reducible refine But.set1 ?_ ?_ _ _; rotate_left; (first | omega | (simp only [World.size_alloc, World.size_setCell, size_drewN, World.size_drew] <;> omega))) | with_reducible refine But.drew ?_ | with_reducible refine But.drewN ?_ _ | with_reducible refine But.trans ?_ (by assumption))) (by (first | omega | (simp only [World.size_alloc, World.size_setCell, size_drewN, World.size_drew] <;> omega))) (by (first | omega | (simp only [World.size_alloc, World.size_setCell, size_drewN, World.size_drew] <;> omega)))) _ _ hn) 1 b rfl).mono ?_
  rintro e w4 ⟨kv4, rfl, hk4, hs4, hb4⟩
  have z4 := hb4.le
  try simp only [World.size_alloc, World.size_setCell, size_drewN, World.size_drew] at z4
  obtain ⟨c4_0, f4_0, l4_0, n4_0, m4_0⟩ := hb4.facts (b := w.heap.size) (by (first | omega | (simp only [World.size_alloc, World.size_setCell, size_drewN, World.size_drew] <;> omega))) (by (first | omega | (simp only [World.size_alloc, World.size_setCell, size_drewN, World.size_drew] <;> omega)))
  obtain ⟨c4_1, f4_1, l4_1, n4_1, m4_1⟩ := hb4.facts (b := w1.heap.size) (by (first | omega | (simp only [World.size_alloc, World.size_setCell, size_drewN, World.size_drew] <;> omega))) (by (first | omega | (simp only [World.size_alloc, World.size_setCell, size_drewN, World.size_drew] <;> omega)))
  go_wp2_with fail
  refine (Hb.out _ _ N bb m _ hk4 (by repeat (first | with_reducible assumption | with_reducible apply Bst.alloc | with_reducible apply Bst.drew | with_reducible apply Bst.drewN | (with_reducible apply Bst.set1; rotate_left; (first | omega | (simp only [World.size_alloc, World.size_setCell, size_drewN, World.size_drew] <;> omega)))))).mono ?_
  rintro e w5 ⟨v5, rfl, ha5, hs5, hb5⟩
  obtain ⟨p5, rfl, hp5⟩ := ha5.ptr
  have z5 := hb5.le
  try simp only [World.size_alloc, World.size_setCell, size_drewN, World.size_drew] at z5
  obtain ⟨c5_0, f5_0, l5_0, n5_0, m5_0⟩ := hb5.facts (b := w.heap.size) (by (first | omega | (simp only [World.size_alloc, World.size_setCell, size_drewN, World.size_drew] <;> omega))) (by (first | omega | (simp only [World.size_alloc, World.size_setCell, size_drewN, World.size_drew] <;> omega)))
  obtain ⟨c5_1, f5_1, l5_1, n5_1, m5_1⟩ := hb5.facts (b := w1.heap.size) (by (first | omega | (simp only [World.size_alloc, World.size_setCell, size_drewN, World.size_drew] <;> omega))) (by (first | omega | (simp only [World.size_alloc, World.size_setCell, size_drewN, World.size_drew] <;> omega)))
  go_wp2_with fail
  refine (kid_b (N := N) (m := m) (by repeat (first | with_reducible assumption | with_reducible apply Bst.alloc | with_reducible apply Bst.drew | with_reducible apply Bst.drewN | (with_reducible apply Bst.set1; rotate_left; (first | omega | (simp only [World.size_alloc, World.size_setCell, size_drewN, World.size_drew] <;> omega))))) (NdK.stay (Nat.le_refl _) (But.same (lb := bb) (by repeat (first | with_reducible exact But.refl _ _ | with_reducible refine But.alloc ?_ _ | (with_reducible refine But.set1 ?_ ?_ _ _; rotate_left; (first | omega | (simp only [World.size_alloc, World.size_setCell, size_drewN, World.size_drew] <;> omega))) | with_reducible refine But.drew ?_ | with_reducible refine But.drewN ?_ _ | with_reducible refine But.trans ?_ (by assumption))) (by (first | omega | (simp only [World.size_alloc, World.size_setCell, size_drewN, World.size_drew] <;> omega))) (by (first | omega | (simp only [World.size_alloc, World.size_setCell, size_drewN, World.size_drew] <;> omega)))) _ _ hn) 2 c rfl).mono ?_
  rintro e w6 ⟨kv6, rfl, hk6, hs6, hb6⟩
  have z6 := hb6.le
  try simp only [World.size_alloc, World.size_setCell, size_drewN, World.size_drew] at z6
  obtain ⟨c6_0, f6_0, l6_0, n6_0, m6_0⟩ := hb6.facts (b := w.heap.size) (by (first | omega | (simp only [World.size_alloc, World.size_setCell, size_drewN, World.size_drew] <;> omega))) (by (first | omega | (simp only [World.size_alloc, World.size_setCell, size_drewN, World.size_drew] <;> omega)))
  obtain ⟨c6_1, f6_1, l6_1, n6_1, m6_1⟩ := hb6.facts (b := w1.heap.size) (by (first | omega | (simp only [World.size_alloc, World.size_setCell, size_drewN, World.size_drew] <;> omega))) (by (first | omega | (simp only [World.size_alloc, World.size_setCell, size_drewN, World.size_drew] <;> omega)))
  go_wp2_with fail
  refine (Hc.out _ _ N bb m _ hk6 (by repeat (first | with_reducible assumption | with_reducible apply Bst.alloc | with_reducible apply Bst.drew | with_reducible apply Bst.drewN | (with_reducible apply Bst.set1; rotate_left; (first | omega | (simp only [World.size_alloc, World.size_setCell, size_drewN, World.size_drew] <;> omega)))))).mono ?_
  rintro e w7 ⟨p7, rfl, ha7, hs7, hb7⟩
  have z7 := hb7.le
  try simp only [World.size_alloc, World.size_setCell, size_drewN, World.size_drew] at z7
  obtain ⟨c7_0, f7_0, l7_0, n7_0, m7_0⟩ := hb7.facts (b := w.heap.size) (by (first | omega | (simp only [World.size_alloc, World.size_setCell, size_drewN, World.size_drew] <;> omega))) (by (first | omega | (simp only [World.size_alloc, World.size_setCell, size_drewN, World.size_drew] <;> omega)))
  obtain ⟨c7_1, f7_1, l7_1, n7_1, m7_1⟩ := hb7.facts (b := w1.heap.size) (by (first | omega | (simp only [World.size_alloc, World.size_setCell, size_drewN, World.size_drew] <;> omega))) (by (first | omega | (simp only [World.size_alloc, World.size_setCell, size_drewN, World.size_drew] <;> omega)))
  go_wp2_with fail
  go_ret
  unfold EPost
  rw [HV.out]
  unfold mkTypes
  dsimp only
  refine ⟨_, rfl, ?_, (by repeat (first | with_reducible assumption | with_reducible apply Bst.alloc | with_reducible apply Bst.drew | with_reducible apply Bst.drewN | (with_reducible apply Bst.set1; rotate_left; (first | omega | (simp only [World.size_alloc, World.size_setCell, size_drewN, World.size_drew] <;> omega))))), (by repeat (first | with_reducible exact But.refl _ _ | with_reducible refine But.alloc ?_ _ | (with_reducible refine But.set1 ?_ ?_ _ _; rotate_left; (first | omega | (simp only [World.size_alloc, World.size_setCell, size_drewN, World.size_drew] <;> omega))) | with_reducible refine But.drew ?_ | with_reducible refine But.drewN ?_ _ | with_reducible refine But.trans ?_ (by assumption)))⟩
  exact At_typesS.2 ⟨w1.heap.size, rfl, ⟨by (first | omega | (simp only [World.size_alloc, World.size_setCell, size_drewN, World.size_drew] <;> omega)), by (first | omega | (simp only [World.size_alloc, World.size_setCell, size_drewN, World.size_drew] <;> omega))⟩, _, _, _, by go_cell, by go_cell, ha3.wide (by repeat (first | with_reducible exact MidI.refl _ _ _ | (with_reducible refine MidI.alloc ?_ ?_ _; rotate_left; (first | omega | (simp only [World.size_alloc, World.size_setCell, size_drewN, World.size_drew] <;> omega))) | (with_reducible refine MidI.set1 ?_ ?_ _ _; rotate_left; (first | omega | (simp only [World.size_alloc, World.size_setCell, size_drewN, World.size_drew] <;> omega))) | with_reducible refine MidI.drew ?_ | with_reducible refine MidI.drewN ?_ _ | (with_reducible refine MidI.but ?_ (by assumption) ?_ ?_; rotate_left; (first | omega | (simp only [World.size_alloc, World.size_setCell, size_drewN, World.size_drew] <;> omega)); (first | omega | (simp only [World.size_alloc, World.size_setCell, size_drewN, World.size_drew] <;> omega))))) (by (first | omega | (simp only [World.size_alloc, World.size_setCell, size_drewN, World.size_drew] <;> omega))) (by (first | omega | (simp only [World.size_alloc, World.size_setCell, size_drewN, World.size_drew] <;> omega))), by go_cell, ha5.wide (by repeat (first | with_reducible exact MidI.refl _ _ _ | (with_reducible refine MidI.alloc ?_ ?_ _; rotate_left; (first | omega | (simp only [World.size_alloc, World.size_setCell, size_drewN, World.size_drew] <;> omega))) | (with_reducible refine MidI.set1 ?_ ?_ _ _; rotate_left; (first | omega | (simp only [World.size_alloc, World.size_setCell, size_drewN, World.size_drew] <;> omega))) | with_reducible refine MidI.drew ?_ | with_reducible refine MidI.drewN ?_ _ | (with_reducible refine MidI.but ?_ (by assumption) ?_ ?_; rotate_left; (first | omega | (simp only [World.size_alloc, World.size_setCell, size_drewN, World.size_drew] <;> omega)); (first | omega | (simp only [World.size_alloc, World.size_setCell, size_drewN, World.size_drew] <;> omega))))) (by (first | omega | (simp only [World.size_alloc, World.size_setCell, size_drewN, World.size_drew] <;> omega))) (by (first | omega | (simp only [World.size_alloc, World.size_setCell, size_drewN, World.size_drew] <;> omega))), by go_cell, ha7.wide (by repeat (first | with_reducible exact MidI.refl _ _ _ | (with_reducible refine MidI.alloc ?_ ?_ _; rotate_left; (first | omega | (simp only [World.size_alloc, World.size_setCell, size_drewN, World.size_drew] <;> omega))) | (with_reducible refine MidI.set1 ?_ ?_ _ _; rotate_left; (first | omega | (simp only [World.size_alloc, World.size_setCell, size_drewN, World.size_drew] <;> omega))) | with_reducible refine MidI.drew ?_ | with_reducible refine MidI.drewN ?_ _ | (with_reducible refine MidI.but ?_ (by assumption) ?_ ?_; rotate_left; (first | omega | (simp only [World.size_alloc, World.size_setCell, size_drewN, World.size_drew] <;> omega)); (first | omega | (simp only [World.size_alloc, World.size_setCell, size_drewN, World.size_drew] <;> omega))))) (by (first | omega | (simp only [World.size_alloc, World.size_setCell, size_drewN, World.size_drew] <;> omega))) (by (first | omega | (simp only [World.size_alloc, World.size_setCell, size_drewN, World.size_drew] <;> omega)))⟩

set_option maxRecDepth 100000 in
set_option maxHeartbeats 4000000 in
theorem stmt_selects (t : ByteArray) (a : Nd) (ha : ClsOK true a) : StmtOK (.mk ⟨#[115, 101, 108, 101, 99, 116, 115]⟩ t [a]) := by
  intro kv w N bb m l hn hs0
  obtain ⟨ka, cap, hv, -, -⟩ := hn.slice
  subst hv
  have hN1 := hs0.hN
  have hN2 := hs0.hb
  have hN3 := hs0.hm
  have z0 := hs0.sz
  have HV := hide (show bS (.mk ⟨#[115, 101, 108, 101, 99, 116, 115]⟩ t [a]) l = mkSelect l (bC true a l.tail) by simp [bS])
  have Ha := hide ha
  clear ha
  simp only [Nd.kids_mk, Nd.kind_mk, Nd.text_mk, List.length_cons, List.length_nil] at hn ⊢
  go_enter Tryz.func51, Tryz.ntmps51
  go_wp2_with fail
  refine (next_any (N := N) (m := m) (by repeat (first | with_reducible assumption | with_reducible apply Bst.alloc | with_reducible apply Bst.drew | with_reducible apply Bst.drewN | (with_reducible apply Bst.set1; rotate_left; (first | omega | (simp only [World.size_alloc, World.size_setCell, size_drewN, World.size_drew] <;> omega)))))).mono ?_
  rintro e w1 ⟨rfl, hs1, hb1⟩
  have z1 := hb1.le
  try simp only [World.size_alloc, World.size_setCell, size_drewN, World.size_drew] at z1
  obtain ⟨c1_0, f1_0, l1_0, n1_0, m1_0⟩ := hb1.facts (b := w.heap.size) (by (first | omega | (simp only [World.size_alloc, World.size_setCell, size_drewN, World.size_drew] <;> omega))) (by (first | omega | (simp only [World.size_alloc, World.size_setCell, size_drewN, World.size_drew] <;> omega)))
  go_wp2_with fail
  refine (kid_b (N := N) (m := m) (by repeat (first | with_reducible assumption | with_reducible apply Bst.alloc | with_reducible apply Bst.drew | with_reducible apply Bst.drewN | (with_reducible apply Bst.set1; rotate_left; (first | omega | (simp only [World.size_alloc, World.size_setCell, size_drewN, World.size_drew] <;> omega))))) (NdK.stay (Nat.le_refl _) (But.same (lb := bb) (by repeat (first | with_reducible exact But.refl _ _ | with_reducible refine But.alloc ?_ _ | (with_reducible refine But.set1 ?_ ?_ _ _; rotate_left; (first | omega | (simp only [World.size_alloc, World.size_setCell, size_drewN, World.size_drew] <;> omega))) | with_reducible refine But.drew ?_ | with_reducible refine But.drewN ?_ _ | with_reducible refine But.trans ?_ (by assumption))) (by (first | omega | (simp only [World.size_alloc, World.size_setCell, size_drewN, World.size_drew] <;> omega))) (by (first | omega | (simp only [World.size_alloc, World.size_setCell, size_drewN, World.size_drew] <;> omega)))) _ _ hn) 0 a rfl).mono ?_
  rintro e w2 ⟨kv2, rfl, hk2, hs2, hb2⟩
  have z2 := hb2.le
  try simp only [World.size_alloc, World.size_setCell, size_drewN, World.size_drew] at z2
  obtain ⟨c2_0, f2_0, l2_0, n2_0, m2_0⟩ := hb2.facts (b := w.heap.size) (by (first | omega | (simp only [World.size_alloc, World.size_setCell, size_drewN, World.size_drew] <;> omega))) (by (first | omega | (simp only [World.size_alloc, World.size_setCell, size_drewN, World.size_drew] <;> omega)))
  obtain ⟨c2_1, f2_1, l2_1, n2_1, m2_1⟩ := hb2.facts (b := w1.heap.size) (by (first | omega | (simp only [World.size_alloc, World.size_setCell, size_drewN, World.size_drew] <;> omega))) (by (first | omega | (simp only [World.size_alloc, World.size_setCell, size_drewN, World.size_drew] <;> omega)))
  go_wp2_with fail
  refine (Ha.out _ _ N bb m _ hk2 (by repeat (first | with_reducible assumption | with_reducible apply Bst.alloc | with_reducible apply Bst.drew | with_reducible apply Bst.drewN | (with_reducible apply Bst.set1; rotate_left; (first | omega | (simp only [World.size_alloc, World.size_setCell, size_drewN, World.size_drew] <;> omega)))))).mono ?_
  rintro e w3 ⟨p3, rfl, ha3, hs3, hb3⟩
  have z3 := hb3.le
  try simp only [World.size_alloc, World.size_setCell, size_drewN, World.size_drew] at z3
  obtain ⟨c3_0, f3_0, l3_0, n3_0, m3_0⟩ := hb3.facts (b := w.heap.size) (by (first | omega | (simp only [World.size_alloc, World.size_setCell, size_drewN, World.size_drew] <;> omega))) (by (first | omega | (simp only [World.size_alloc, World.size_setCell, size_drewN, World.size_drew] <;> omega)))
  obtain ⟨c3_1, f3_1, l3_1, n3_1, m3_1⟩ := hb3.facts (b := w1.heap.size) (by (first | omega | (simp only [World.size_alloc, World.size_setCell, size_drewN, World.size_drew] <;> omega))) (by (first | omega | (simp only [World.size_alloc, World.size_setCell, size_drewN, World.size_drew] <;> omega)))
  go_wp2_with fail
  go_ret
  unfold EPost
  rw [HV.out]
  unfold mkSelect
  dsimp only
  refine ⟨_, rfl, ?_, (by repeat (first | with_reducible assumption | with_reducible apply Bst.alloc | with_reducible apply Bst.drew | with_reducible apply Bst.drewN | (with_reducible apply Bst.set1; rotate_left; (first | omega | (simp only [World.size_alloc, World.size_setCell, size_drewN, World.size_drew] <;> omega))))), (by repeat (first | with_reducible exact But.refl _ _ | with_reducible refine But.alloc ?_ _ | (with_reducible refine But.set1 ?_ ?_ _ _; rotate_left; (first | omega | (simp only [World.size_alloc, World.size_setCell, size_drewN, World.size_drew] <;> omega))) | with_reducible refine But.drew ?_ | with_reducible refine But.drewN ?_ _ | with_reducible refine But.trans ?_ (by assumption)))⟩
  exact At_selectS.2 ⟨w1.heap.size, rfl, ⟨by (first | omega | (simp only [World.size_alloc, World.size_setCell, size_drewN, World.size_drew] <;> omega)), by (first | omega | (simp only [World.size_alloc, World.size_setCell, size_drewN, World.size_drew] <;> omega))⟩, _, by go_cell, by go_cell, ha3.wide (by repeat (first | with_reducible exact MidI.refl _ _ _ | (with_reducible refine MidI.alloc ?_ ?_ _; rotate_left; (first | omega | (simp only [World.size_alloc, World.size_setCell, size_drewN, World.size_drew] <;> omega))) | (with_reducible refine MidI.set1 ?_ ?_ _ _; rotate_left; (first | omega | (simp only [World.size_alloc, World.size_setCell, size_drewN, World.size_drew] <;> omega))) | with_reducible refine MidI.drew ?_ | with_reducible refine MidI.drewN ?_ _ | (with_reducible refine MidI.but ?_ (by assumption) ?_ ?_; rotate_left; (first | omega | (simp only [World.size_alloc, World.size_setCell, size_drewN, World.size_drew] <;> omega)); (first | omega | (simp only [World.size_alloc, World.size_setCell, size_drewN, World.size_drew] <;> omega))))) (by (first | omega | (simp only [World.size_alloc, World.size_setCell, size_drewN, World.size_drew] <;> omega))) (by (first | omega | (simp only [World.size_alloc, World.size_setCell, size_drewN, World.size_drew] <;> omega)))⟩

end Go.Proofs.YtkkgfgllfbahlaaGreatFmt
