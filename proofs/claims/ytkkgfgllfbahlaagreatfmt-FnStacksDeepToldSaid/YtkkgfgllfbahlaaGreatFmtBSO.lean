/- What is asked of the builder's parts: blocks, clauses, parts that may not be there.
builder.stmt, one walk for each kind (printed by gen_bs.py). -/
import Derived.Test.YtkkgfgllfbahlaaGreatFmtBCl2
import Derived.Deep.RegionHeld3
set_option linter.unusedVariables false
set_option linter.unusedSimpArgs false
namespace Go.Proofs.YtkkgfgllfbahlaaGreatFmt
open Go Go.RowKit
set_option linter.unusedSimpArgs false

/-- The builder's block answers on this node. -/
def BlockOK (n : Nd) : Prop := ∀ (kv : Value) (w : World) (N bb m : Nat) (l : List Int), NdK N w n kv → Bst N bb m l w →
  Calls Tryz.prog 75 #[.pointer (some ⟨bb, 0, none⟩), .agg #[.string n.kind, .string n.text, kv]] w (PPost 98 N bb m (bB n l) w)
/-- The builder's clauses answers on this node. -/
def ClsOK (c : Bool) (n : Nd) : Prop := ∀ (kv : Value) (w : World) (N bb m : Nat) (l : List Int), NdK N w n kv → Bst N bb m l w →
  Calls Tryz.prog 76 #[.pointer (some ⟨bb, 0, none⟩), .agg #[.string n.kind, .string n.text, kv], .bool c] w (PPost 98 N bb m (bC c n l) w)
/-- The builder's expr answers on this node, or it is not there. -/
def ExprO (n : Nd) : Prop := ∀ (kv : Value) (w : World) (N bb m : Nat) (l : List Int), NdK N w n kv → Bst N bb m l w →
  Calls Tryz.prog 68 #[.pointer (some ⟨bb, 0, none⟩), .agg #[.string n.kind, .string n.text, kv]] w (SOPost N bb m (bEO n l) w)

theorem stores_at {v : Value} (h : v.oneCell' = true) {W : World} {b o : Nat} (u : Value) (hc : W.cell? ⟨b, o, none⟩ = some u) (hf : W.frozen? ⟨b, o, none⟩ = false) :
    Sem.run Tryz.prog (storeCells ⟨b, o, none⟩ [v]) W = .ok () (W.setCell ⟨b, o, none⟩ v) := stores_of h W b o (by rw [hc]; rfl) hf

theorem field_kids (k t : ByteArray) (a : Option Addr) (n c : Nat) (W : World) : Sem.run Tryz.prog (Instr.field 24 (.agg #[.string k, .string t, .slice a n c]) 2) W = .ok (.slice a n c) W := by
  kernel_rfl
theorem field_kind (k t : ByteArray) (a : Option Addr) (n c : Nat) (W : World) : Sem.run Tryz.prog (Instr.field 24 (.agg #[.string k, .string t, .slice a n c]) 0) W = .ok (.string k) W := by
  kernel_rfl
theorem optB_hit {n : Nd} (hm : miss n = false) (l : List Int) (r : BR) : optB n l r = (some r.1, r.2) := by simp [optB, hm]
theorem optB_miss {n : Nd} (hm : miss n = true) (l : List Int) (r : BR) : optB n l r = (none, l) := by simp [optB, hm]
theorem miss_kind {n : Nd} (hm : miss n = true) : n.kind = ⟨#[110, 111, 110, 101]⟩ := by
  simp [miss] at hm
  exact ba_eq hm.1.1
theorem beq_ne_nil {t : List UInt8} (h : (t == []) = false) : ¬ t = [] := by intro e; subst e; simp at h
theorem hit_of_kind {n : Nd} (h : (n.kind.toList == [110, 111, 110, 101]) = false) : miss n = false := by
  cases hm : miss n
  · rfl
  · rw [miss_kind hm] at h
    simp at h

set_option maxRecDepth 100000 in
set_option maxHeartbeats 2000000 in
theorem stmt_none_b (n : Nd) (hm : miss n = true) (kv : Value) (w : World) (N bb m : Nat) (l : List Int) (hn : NdK N w n kv) (hs0 : Bst N bb m l w) :
    Calls Tryz.prog 51 #[.pointer (some ⟨bb, 0, none⟩), .agg #[.string n.kind, .string n.text, kv]] w fun e w' => e = .returned .nilIface ∧ Bst N bb m l w' ∧ But bb w w' := by
  obtain ⟨k, t, ks⟩ := n
  have hkk := miss_kind hm
  simp only [Nd.kind_mk] at hkk
  subst hkk
  obtain ⟨a, cap, hv, -, -⟩ := hn.slice
  subst hv
  have hN1 := hs0.hN
  have hN2 := hs0.hb
  have hN3 := hs0.hm
  have z0 := hs0.sz
  simp only [Nd.kids_mk, Nd.kind_mk, Nd.text_mk, List.length_cons, List.length_nil] at hn ⊢
  go_enter Tryz.func51, Tryz.ntmps51
  go_wp2_with fail
  go_ret
  exact ⟨rfl, (by repeat (first | with_reducible assumption | with_reducible apply Bst.alloc | with_reducible apply Bst.drew | with_reducible apply Bst.drewN | (with_reducible apply Bst.set1; rotate_left; (first | omega | (simp only [World.size_alloc, World.size_setCell, size_drewN, World.size_drew] <;> omega))))), (by repeat (first | with_reducible exact But.refl _ _ | with_reducible refine But.alloc ?_ _ | (with_reducible refine But.set1 ?_ ?_ _ _; rotate_left; (first | omega | (simp only [World.size_alloc, World.size_setCell, size_drewN, World.size_drew] <;> omega))) | with_reducible refine But.drew ?_ | with_reducible refine But.drewN ?_ _ | with_reducible refine But.trans ?_ (by assumption)))⟩

theorem SOPost.of {N bb m : Nat} {n : Nd} {l : List Int} {r : BR} {w w' : World} {e : Ending} (hm : miss n = false) (h : EPost N bb m r w e w') : SOPost N bb m (optB n l r) w e w' := by
  obtain ⟨v, he, ha, hs, hb⟩ := h
  obtain ⟨p, hv, -⟩ := ha.ptr
  rw [optB_hit hm]
  exact ⟨v, he, by rw [hv]; rfl, AtO_some.2 ha, hs, hb⟩
theorem SOPost.nil {N bb m : Nat} {n : Nd} {l : List Int} {r : BR} {w w' : World} {e : Ending} (hm : miss n = true) (h : e = .returned .nilIface ∧ Bst N bb m l w' ∧ But bb w w') : SOPost N bb m (optB n l r) w e w' := by
  obtain ⟨he, hs, hb⟩ := h
  rw [optB_miss hm]
  exact ⟨_, he, rfl, AtO_none.2 rfl, hs, hb⟩
theorem StmtO.of {n : Nd} (h : miss n = false → StmtOK n) : StmtO n := by
  intro kv w N bb m l hn hs
  cases hm : miss n
  · exact (h hm kv w N bb m l hn hs).mono fun _ _ hq => SOPost.of hm hq
  · exact (stmt_none_b n hm kv w N bb m l hn hs).mono fun _ _ hq => SOPost.nil hm hq
theorem ExprO.of {n : Nd} (h : miss n = false → ExprOK n) : ExprO n := by
  intro kv w N bb m l hn hs
  cases hm : miss n
  · exact (h hm kv w N bb m l hn hs).mono fun _ _ hq => SOPost.of hm hq
  · exact (expr_none_b n hm kv w N bb m l hn hs).mono fun _ _ hq => SOPost.nil hm hq
theorem BlockOK.of {n : Nd} (hks : ∀ k, k ∈ n.kids → StmtOK k) (hlen : n.kids.length ≤ 400) : BlockOK n := fun kv w N bb m l hn hs => block_b n hks hlen kv w N bb m l hn hs
theorem ClsOK.comm {n : Nd} (hks : ∀ c, c ∈ n.kids → Clcomm c) (hlen : n.kids.length ≤ 400) : ClsOK true n := fun kv w N bb m l hn hs => clauses_comm n hks hlen kv w N bb m l hn hs
theorem ClsOK.case {n : Nd} (hks : ∀ c, c ∈ n.kids → Clcase c) (hlen : n.kids.length ≤ 400) : ClsOK false n := fun kv w N bb m l hn hs => clauses_case n hks hlen kv w N bb m l hn hs
end Go.Proofs.YtkkgfgllfbahlaaGreatFmt

namespace Go.Proofs.YtkkgfgllfbahlaaGreatFmt
open Go Go.RowKit
set_option linter.unusedSimpArgs false

set_option maxRecDepth 100000 in
set_option maxHeartbeats 4000000 in
theorem stmt_expression (t : ByteArray) (x : Nd) (hx : ExprOK x) : StmtOK (.mk ⟨#[101, 120, 112, 114, 101, 115, 115, 105, 111, 110]⟩ t [x]) := by
  intro kv w N bb m l hn hs0
  obtain ⟨a, cap, hv, -, -⟩ := hn.slice
  subst hv
  have hN1 := hs0.hN
  have hN2 := hs0.hb
  have hN3 := hs0.hm
  have z0 := hs0.sz
  have HV := hide (show bS (.mk ⟨#[101, 120, 112, 114, 101, 115, 115, 105, 111, 110]⟩ t [x]) l = mkExprS (bE x l) by simp [bS])
  have Hx := hide hx
  clear hx
  simp only [Nd.kids_mk, Nd.kind_mk, Nd.text_mk, List.length_cons, List.length_nil] at hn ⊢
  go_enter Tryz.func51, Tryz.ntmps51
  go_wp2_with fail
  refine (kid_b (N := N) (m := m) (by repeat (first | with_reducible assumption | with_reducible apply Bst.alloc | with_reducible apply Bst.drew | with_reducible apply Bst.drewN | (with_reducible apply Bst.set1; rotate_left; (first | omega | (simp only [World.size_alloc, World.size_setCell, size_drewN, World.size_drew] <;> omega))))) (NdK.stay (Nat.le_refl _) (But.same (lb := bb) (by repeat (first | with_reducible exact But.refl _ _ | with_reducible refine But.alloc ?_ _ | (with_reducible refine But.set1 ?_ ?_ _ _; rotate_left; (first | omega | (simp only [World.size_alloc, World.size_setCell, size_drewN, World.size_drew] <;> omega))) | with_reducible refine But.drew ?_ | with_reducible refine But.drewN ?_ _ | with_reducible refine But.trans ?_ (by assumption))) (by (first | omega | (simp only [World.size_alloc, World.size_setCell, size_drewN, World.size_drew] <;> omega))) (by (first | omega | (simp only [World.size_alloc, World.size_setCell, size_drewN, World.size_drew] <;> omega)))) _ _ hn) 0 x rfl).mono ?_
  rintro e w1 ⟨kv1, rfl, hk1, hs1, hb1⟩
  have z1 := hb1.le
  try simp only [World.size_alloc, World.size_setCell, size_drewN, World.size_drew] at z1
  obtain ⟨c1_0, f1_0, l1_0, n1_0, m1_0⟩ := hb1.facts (b := w.heap.size) (by (first | omega | (simp only [World.size_alloc, World.size_setCell, size_drewN, World.size_drew] <;> omega))) (by (first | omega | (simp only [World.size_alloc, World.size_setCell, size_drewN, World.size_drew] <;> omega)))
  go_wp2_with fail
  refine (Hx.out _ _ N bb m _ hk1 (by repeat (first | with_reducible assumption | with_reducible apply Bst.alloc | with_reducible apply Bst.drew | with_reducible apply Bst.drewN | (with_reducible apply Bst.set1; rotate_left; (first | omega | (simp only [World.size_alloc, World.size_setCell, size_drewN, World.size_drew] <;> omega)))))).mono ?_
  rintro e w2 ⟨v2, rfl, ha2, hs2, hb2⟩
  obtain ⟨p2, rfl, hp2⟩ := ha2.ptr
  have z2 := hb2.le
  try simp only [World.size_alloc, World.size_setCell, size_drewN, World.size_drew] at z2
  obtain ⟨c2_0, f2_0, l2_0, n2_0, m2_0⟩ := hb2.facts (b := w.heap.size) (by (first | omega | (simp only [World.size_alloc, World.size_setCell, size_drewN, World.size_drew] <;> omega))) (by (first | omega | (simp only [World.size_alloc, World.size_setCell, size_drewN, World.size_drew] <;> omega)))
  go_wp2_with fail
  go_ret
  unfold EPost
  rw [HV.out]
  unfold mkExprS
  dsimp only
  refine ⟨_, rfl, ?_, (by repeat (first | with_reducible assumption | with_reducible apply Bst.alloc | with_reducible apply Bst.drew | with_reducible apply Bst.drewN | (with_reducible apply Bst.set1; rotate_left; (first | omega | (simp only [World.size_alloc, World.size_setCell, size_drewN, World.size_drew] <;> omega))))), (by repeat (first | with_reducible exact But.refl _ _ | with_reducible refine But.alloc ?_ _ | (with_reducible refine But.set1 ?_ ?_ _ _; rotate_left; (first | omega | (simp only [World.size_alloc, World.size_setCell, size_drewN, World.size_drew] <;> omega))) | with_reducible refine But.drew ?_ | with_reducible refine But.drewN ?_ _ | with_reducible refine But.trans ?_ (by assumption)))⟩
  exact At_exprS.2 ⟨w2.heap.size, rfl, ⟨by (first | omega | (simp only [World.size_alloc, World.size_setCell, size_drewN, World.size_drew] <;> omega)), by (first | omega | (simp only [World.size_alloc, World.size_setCell, size_drewN, World.size_drew] <;> omega))⟩, _, by go_cell, ha2.wide (by repeat (first | with_reducible exact MidI.refl _ _ _ | (with_reducible refine MidI.alloc ?_ ?_ _; rotate_left; (first | omega | (simp only [World.size_alloc, World.size_setCell, size_drewN, World.size_drew] <;> omega))) | (with_reducible refine MidI.set1 ?_ ?_ _ _; rotate_left; (first | omega | (simp only [World.size_alloc, World.size_setCell, size_drewN, World.size_drew] <;> omega))) | with_reducible refine MidI.drew ?_ | with_reducible refine MidI.drewN ?_ _ | (with_reducible refine MidI.but ?_ (by assumption) ?_ ?_; rotate_left; (first | omega | (simp only [World.size_alloc, World.size_setCell, size_drewN, World.size_drew] <;> omega)); (first | omega | (simp only [World.size_alloc, World.size_setCell, size_drewN, World.size_drew] <;> omega))))) (by (first | omega | (simp only [World.size_alloc, World.size_setCell, size_drewN, World.size_drew] <;> omega))) (by (first | omega | (simp only [World.size_alloc, World.size_setCell, size_drewN, World.size_drew] <;> omega)))⟩

set_option maxRecDepth 100000 in
set_option maxHeartbeats 4000000 in
theorem stmt_send (t : ByteArray) (x : Nd) (y : Nd) (hx : ExprOK x) (hy : ExprOK y) : StmtOK (.mk ⟨#[115, 101, 110, 100]⟩ t [x, y]) := by
  intro kv w N bb m l hn hs0
  obtain ⟨a, cap, hv, -, -⟩ := hn.slice
  subst hv
  have hN1 := hs0.hN
  have hN2 := hs0.hb
  have hN3 := hs0.hm
  have z0 := hs0.sz
  have HV := hide (show bS (.mk ⟨#[115, 101, 110, 100]⟩ t [x, y]) l = mkSend (bE x l) (bE y (bE x l).2.tail) by simp [bS])
  have Hx := hide hx
  clear hx
  have Hy := hide hy
  clear hy
  simp only [Nd.kids_mk, Nd.kind_mk, Nd.text_mk, List.length_cons, List.length_nil] at hn ⊢
  go_enter Tryz.func51, Tryz.ntmps51
  go_wp2_with fail
  refine (kid_b (N := N) (m := m) (by repeat (first | with_reducible assumption | with_reducible apply Bst.alloc | with_reducible apply Bst.drew | with_reducible apply Bst.drewN | (with_reducible apply Bst.set1; rotate_left; (first | omega | (simp only [World.size_alloc, World.size_setCell, size_drewN, World.size_drew] <;> omega))))) (NdK.stay (Nat.le_refl _) (But.same (lb := bb) (by repeat (first | with_reducible exact But.refl _ _ | with_reducible refine But.alloc ?_ _ | (with_reducible refine But.set1 ?_ ?_ _ _; rotate_left; (first | omega | (simp only [World.size_alloc, World.size_setCell, size_drewN, World.size_drew] <;> omega))) | with_reducible refine But.drew ?_ | with_reducible refine But.drewN ?_ _ | with_reducible refine But.trans ?_ (by assumption))) (by (first | omega | (simp only [World.size_alloc, World.size_setCell, size_drewN, World.size_drew] <;> omega))) (by (first | omega | (simp only [World.size_alloc, World.size_setCell, size_drewN, World.size_drew] <;> omega)))) _ _ hn) 0 x rfl).mono ?_
  rintro e w1 ⟨kv1, rfl, hk1, hs1, hb1⟩
  have z1 := hb1.le
  try simp only [World.size_alloc, World.size_setCell, size_drewN, World.size_drew] at z1
  obtain ⟨c1_0, f1_0, l1_0, n1_0, m1_0⟩ := hb1.facts (b := w.heap.size) (by (first | omega | (simp only [World.size_alloc, World.size_setCell, size_drewN, World.size_drew] <;> omega))) (by (first | omega | (simp only [World.size_alloc, World.size_setCell, size_drewN, World.size_drew] <;> omega)))
  go_wp2_with fail
  refine (Hx.out _ _ N bb m _ hk1 (by repeat (first | with_reducible assumption | with_reducible apply Bst.alloc | with_reducible apply Bst.drew | with_reducible apply Bst.drewN | (with_reducible apply Bst.set1; rotate_left; (first | omega | (simp only [World.size_alloc, World.size_setCell, size_drewN, World.size_drew] <;> omega)))))).mono ?_
  rintro e w2 ⟨v2, rfl, ha2, hs2, hb2⟩
  obtain ⟨p2, rfl, hp2⟩ := ha2.ptr
  have z2 := hb2.le
  try simp only [World.size_alloc, World.size_setCell, size_drewN, World.size_drew] at z2
  obtain ⟨c2_0, f2_0, l2_0, n2_0, m2_0⟩ := hb2.facts (b := w.heap.size) (by (first | omega | (simp only [World.size_alloc, World.size_setCell, size_drewN, World.size_drew] <;> omega))) (by (first | omega | (simp only [World.size_alloc, World.size_setCell, size_drewN, World.size_drew] <;> omega)))
  go_wp2_with fail
  refine (next_any (N := N) (m := m) (by repeat (first | with_reducible assumption | with_reducible apply Bst.alloc | with_reducible apply Bst.drew | with_reducible apply Bst.drewN | (with_reducible apply Bst.set1; rotate_left; (first | omega | (simp only [World.size_alloc, World.size_setCell, size_drewN, World.size_drew] <;> omega)))))).mono ?_
  rintro e w3 ⟨rfl, hs3, hb3⟩
  have z3 := hb3.le
  try simp only [World.size_alloc, World.size_setCell, size_drewN, World.size_drew] at z3
  obtain ⟨c3_0, f3_0, l3_0, n3_0, m3_0⟩ := hb3.facts (b := w.heap.size) (by (first | omega | (simp only [World.size_alloc, World.size_setCell, size_drewN, World.size_drew] <;> omega))) (by (first | omega | (simp only [World.size_alloc, World.size_setCell, size_drewN, World.size_drew] <;> omega)))
  go_wp2_with fail
  refine (kid_b (N := N) (m := m) (by repeat (first | with_reducible assumption | with_reducible apply Bst.alloc | with_reducible apply Bst.drew | with_reducible apply Bst.drewN | (with_reducible apply Bst.set1; rotate_left; (first | omega | (simp only [World.size_alloc, World.size_setCell, size_drewN, World.size_drew] <;> omega))))) (NdK.stay (Nat.le_refl _) (But.same (lb := bb) (by repeat (first | with_reducible exact But.refl _ _ | with_reducible refine But.alloc ?_ _ | (with_reducible refine But.set1 ?_ ?_ _ _; rotate_left; (first | omega | (simp only [World.size_alloc, World.size_setCell, size_drewN, World.size_drew] <;> omega))) | with_reducible refine But.drew ?_ | with_reducible refine But.drewN ?_ _ | with_reducible refine But.trans ?_ (by assumption))) (by (first | omega | (simp only [World.size_alloc, World.size_setCell, size_drewN, World.size_drew] <;> omega))) (by (first | omega | (simp only [World.size_alloc, World.size_setCell, size_drewN, World.size_drew] <;> omega)))) _ _ hn) 1 y rfl).mono ?_
  rintro e w4 ⟨kv4, rfl, hk4, hs4, hb4⟩
  have z4 := hb4.le
  try simp only [World.size_alloc, World.size_setCell, size_drewN, World.size_drew] at z4
  obtain ⟨c4_0, f4_0, l4_0, n4_0, m4_0⟩ := hb4.facts (b := w.heap.size) (by (first | omega | (simp only [World.size_alloc, World.size_setCell, size_drewN, World.size_drew] <;> omega))) (by (first | omega | (simp only [World.size_alloc, World.size_setCell, size_drewN, World.size_drew] <;> omega)))
  obtain ⟨c4_1, f4_1, l4_1, n4_1, m4_1⟩ := hb4.facts (b := w3.heap.size) (by (first | omega | (simp only [World.size_alloc, World.size_setCell, size_drewN, World.size_drew] <;> omega))) (by (first | omega | (simp only [World.size_alloc, World.size_setCell, size_drewN, World.size_drew] <;> omega)))
  go_wp2_with fail
  refine (Hy.out _ _ N bb m _ hk4 (by repeat (first | with_reducible assumption | with_reducible apply Bst.alloc | with_reducible apply Bst.drew | with_reducible apply Bst.drewN | (with_reducible apply Bst.set1; rotate_left; (first | omega | (simp only [World.size_alloc, World.size_setCell, size_drewN, World.size_drew] <;> omega)))))).mono ?_
  rintro e w5 ⟨v5, rfl, ha5, hs5, hb5⟩
  obtain ⟨p5, rfl, hp5⟩ := ha5.ptr
  have z5 := hb5.le
  try simp only [World.size_alloc, World.size_setCell, size_drewN, World.size_drew] at z5
  obtain ⟨c5_0, f5_0, l5_0, n5_0, m5_0⟩ := hb5.facts (b := w.heap.size) (by (first | omega | (simp only [World.size_alloc, World.size_setCell, size_drewN, World.size_drew] <;> omega))) (by (first | omega | (simp only [World.size_alloc, World.size_setCell, size_drewN, World.size_drew] <;> omega)))
  obtain ⟨c5_1, f5_1, l5_1, n5_1, m5_1⟩ := hb5.facts (b := w3.heap.size) (by (first | omega | (simp only [World.size_alloc, World.size_setCell, size_drewN, World.size_drew] <;> omega))) (by (first | omega | (simp only [World.size_alloc, World.size_setCell, size_drewN, World.size_drew] <;> omega)))
  go_wp2_with fail
  go_ret
  unfold EPost
  rw [HV.out]
  unfold mkSend
  dsimp only
  refine ⟨_, rfl, ?_, (by repeat (first | with_reducible assumption | with_reducible apply Bst.alloc | with_reducible apply Bst.drew | with_reducible apply Bst.drewN | (with_reducible apply Bst.set1; rotate_left; (first | omega | (simp only [World.size_alloc, World.size_setCell, size_drewN, World.size_drew] <;> omega))))), (by repeat (first | with_reducible exact But.refl _ _ | with_reducible refine But.alloc ?_ _ | (with_reducible refine But.set1 ?_ ?_ _ _; rotate_left; (first | omega | (simp only [World.size_alloc, World.size_setCell, size_drewN, World.size_drew] <;> omega))) | with_reducible refine But.drew ?_ | with_reducible refine But.drewN ?_ _ | with_reducible refine But.trans ?_ (by assumption)))⟩
  exact At_send.2 ⟨w3.heap.size, rfl, ⟨by (first | omega | (simp only [World.size_alloc, World.size_setCell, size_drewN, World.size_drew] <;> omega)), by (first | omega | (simp only [World.size_alloc, World.size_setCell, size_drewN, World.size_drew] <;> omega))⟩, _, _, by go_cell, ha2.wide (by repeat (first | with_reducible exact MidI.refl _ _ _ | (with_reducible refine MidI.alloc ?_ ?_ _; rotate_left; (first | omega | (simp only [World.size_alloc, World.size_setCell, size_drewN, World.size_drew] <;> omega))) | (with_reducible refine MidI.set1 ?_ ?_ _ _; rotate_left; (first | omega | (simp only [World.size_alloc, World.size_setCell, size_drewN, World.size_drew] <;> omega))) | with_reducible refine MidI.drew ?_ | with_reducible refine MidI.drewN ?_ _ | (with_reducible refine MidI.but ?_ (by assumption) ?_ ?_; rotate_left; (first | omega | (simp only [World.size_alloc, World.size_setCell, size_drewN, World.size_drew] <;> omega)); (first | omega | (simp only [World.size_alloc, World.size_setCell, size_drewN, World.size_drew] <;> omega))))) (by (first | omega | (simp only [World.size_alloc, World.size_setCell, size_drewN, World.size_drew] <;> omega))) (by (first | omega | (simp only [World.size_alloc, World.size_setCell, size_drewN, World.size_drew] <;> omega))), by go_cell, by go_cell, ha5.wide (by repeat (first | with_reducible exact MidI.refl _ _ _ | (with_reducible refine MidI.alloc ?_ ?_ _; rotate_left; (first | omega | (simp only [World.size_alloc, World.size_setCell, size_drewN, World.size_drew] <;> omega))) | (with_reducible refine MidI.set1 ?_ ?_ _ _; rotate_left; (first | omega | (simp only [World.size_alloc, World.size_setCell, size_drewN, World.size_drew] <;> omega))) | with_reducible refine MidI.drew ?_ | with_reducible refine MidI.drewN ?_ _ | (with_reducible refine MidI.but ?_ (by assumption) ?_ ?_; rotate_left; (first | omega | (simp only [World.size_alloc, World.size_setCell, size_drewN, World.size_drew] <;> omega)); (first | omega | (simp only [World.size_alloc, World.size_setCell, size_drewN, World.size_drew] <;> omega))))) (by (first | omega | (simp only [World.size_alloc, World.size_setCell, size_drewN, World.size_drew] <;> omega))) (by (first | omega | (simp only [World.size_alloc, World.size_setCell, size_drewN, World.size_drew] <;> omega)))⟩

set_option maxRecDepth 100000 in
set_option maxHeartbeats 4000000 in
theorem stmt_step (t : ByteArray) (x : Nd) (hx : ExprOK x) : StmtOK (.mk ⟨#[115, 116, 101, 112]⟩ t [x]) := by
  intro kv w N bb m l hn hs0
  obtain ⟨a, cap, hv, -, -⟩ := hn.slice
  subst hv
  have hN1 := hs0.hN
  have hN2 := hs0.hb
  have hN3 := hs0.hm
  have z0 := hs0.sz
  have HV := hide (show bS (.mk ⟨#[115, 116, 101, 112]⟩ t [x]) l = mkStep (bE x l) t by simp [bS])
  have Hx := hide hx
  clear hx
  simp only [Nd.kids_mk, Nd.kind_mk, Nd.text_mk, List.length_cons, List.length_nil] at hn ⊢
  go_enter Tryz.func51, Tryz.ntmps51
  go_wp2_with fail
  go_region_held3 (fun w' => w'.cell? ⟨w.heap.size, 0, none⟩ = some (.string ⟨#[115, 116, 101, 112]⟩) ∧ w'.cell? ⟨w.heap.size, 1, none⟩ = some (.string t) ∧ w'.cell? ⟨w.heap.size, 2, none⟩ = some (.slice a (0 + 1) cap)) (go_keep) (first
    | (go_at_call 69
       refine (kid_b (N := N) (m := m) (by repeat (first | with_reducible assumption | with_reducible apply Bst.alloc | with_reducible apply Bst.drew | with_reducible apply Bst.drewN | (with_reducible apply Bst.set1; rotate_left; (first | omega | (simp only [World.size_alloc, World.size_setCell, size_drewN, World.size_drew] <;> omega))))) (NdK.stay (Nat.le_refl _) (But.same (lb := bb) (by repeat (first | with_reducible exact But.refl _ _ | with_reducible refine But.alloc ?_ _ | (with_reducible refine But.set1 ?_ ?_ _ _; rotate_left; (first | omega | (simp only [World.size_alloc, World.size_setCell, size_drewN, World.size_drew] <;> omega))) | with_reducible refine But.drew ?_ | with_reducible refine But.drewN ?_ _ | with_reducible refine But.trans ?_ (by assumption))) (by (first | omega | (simp only [World.size_alloc, World.size_setCell, size_drewN, World.size_drew] <;> omega))) (by (first | omega | (simp only [World.size_alloc, World.size_setCell, size_drewN, World.size_drew] <;> omega)))) _ _ hn) 0 x rfl).mono ?_
       rintro e w1 ⟨kv1, rfl, hk1, hs1, hb1⟩
       have z1 := hb1.le
       try simp only [World.size_alloc, World.size_setCell, size_drewN, World.size_drew] at z1
       obtain ⟨c1_0, f1_0, l1_0, n1_0, m1_0⟩ := hb1.facts (b := w.heap.size) (by (first | omega | (simp only [World.size_alloc, World.size_setCell, size_drewN, World.size_drew] <;> omega))) (by (first | omega | (simp only [World.size_alloc, World.size_setCell, size_drewN, World.size_drew] <;> omega)))
      )
    | (go_at_call 68
       refine (Hx.out _ _ N bb m _ hk1 (by repeat (first | with_reducible assumption | with_reducible apply Bst.alloc | with_reducible apply Bst.drew | with_reducible apply Bst.drewN | (with_reducible apply Bst.set1; rotate_left; (first | omega | (simp only [World.size_alloc, World.size_setCell, size_drewN, World.size_drew] <;> omega)))))).mono ?_
       rintro e w2 ⟨v2, rfl, ha2, hs2, hb2⟩
       obtain ⟨p2, rfl, hp2⟩ := ha2.ptr
       have z2 := hb2.le
       try simp only [World.size_alloc, World.size_setCell, size_drewN, World.size_drew] at z2
       obtain ⟨c2_0, f2_0, l2_0, n2_0, m2_0⟩ := hb2.facts (b := w.heap.size) (by (first | omega | (simp only [World.size_alloc, World.size_setCell, size_drewN, World.size_drew] <;> omega))) (by (first | omega | (simp only [World.size_alloc, World.size_setCell, size_drewN, World.size_drew] <;> omega)))
      )
    | (go_at_call 70
       refine (next_any (N := N) (m := m) (by repeat (first | with_reducible assumption | with_reducible apply Bst.alloc | with_reducible apply Bst.drew | with_reducible apply Bst.drewN | (with_reducible apply Bst.set1; rotate_left; (first | omega | (simp only [World.size_alloc, World.size_setCell, size_drewN, World.size_drew] <;> omega)))))).mono ?_
       rintro e w3 ⟨rfl, hs3, hb3⟩
       have z3 := hb3.le
       try simp only [World.size_alloc, World.size_setCell, size_drewN, World.size_drew] at z3
       obtain ⟨c3_0, f3_0, l3_0, n3_0, m3_0⟩ := hb3.facts (b := w.heap.size) (by (first | omega | (simp only [World.size_alloc, World.size_setCell, size_drewN, World.size_drew] <;> omega))) (by (first | omega | (simp only [World.size_alloc, World.size_setCell, size_drewN, World.size_drew] <;> omega)))
      )
    | (go_at_call 71
       refine (word_b (N := N) (m := m) (by repeat (first | with_reducible assumption | with_reducible apply Bst.alloc | with_reducible apply Bst.drew | with_reducible apply Bst.drewN | (with_reducible apply Bst.set1; rotate_left; (first | omega | (simp only [World.size_alloc, World.size_setCell, size_drewN, World.size_drew] <;> omega))))) _).mono ?_
       rintro e wz ⟨rfl, rfl⟩
      ))
  go_wp2_with fail
  go_ret
  unfold EPost
  rw [HV.out]
  unfold mkStep
  dsimp only
  refine ⟨_, rfl, ?_, (by repeat (first | with_reducible assumption | with_reducible apply Bst.alloc | with_reducible apply Bst.drew | with_reducible apply Bst.drewN | (with_reducible apply Bst.set1; rotate_left; (first | omega | (simp only [World.size_alloc, World.size_setCell, size_drewN, World.size_drew] <;> omega))))), (by repeat (first | with_reducible exact But.refl _ _ | with_reducible refine But.alloc ?_ _ | (with_reducible refine But.set1 ?_ ?_ _ _; rotate_left; (first | omega | (simp only [World.size_alloc, World.size_setCell, size_drewN, World.size_drew] <;> omega))) | with_reducible refine But.drew ?_ | with_reducible refine But.drewN ?_ _ | with_reducible refine But.trans ?_ (by assumption)))⟩
  exact At_step.2 ⟨w3.heap.size, rfl, ⟨by (first | omega | (simp only [World.size_alloc, World.size_setCell, size_drewN, World.size_drew] <;> omega)), by (first | omega | (simp only [World.size_alloc, World.size_setCell, size_drewN, World.size_drew] <;> omega))⟩, _, by go_cell, ha2.wide (by repeat (first | with_reducible exact MidI.refl _ _ _ | (with_reducible refine MidI.alloc ?_ ?_ _; rotate_left; (first | omega | (simp only [World.size_alloc, World.size_setCell, size_drewN, World.size_drew] <;> omega))) | (with_reducible refine MidI.set1 ?_ ?_ _ _; rotate_left; (first | omega | (simp only [World.size_alloc, World.size_setCell, size_drewN, World.size_drew] <;> omega))) | with_reducible refine MidI.drew ?_ | with_reducible refine MidI.drewN ?_ _ | (with_reducible refine MidI.but ?_ (by assumption) ?_ ?_; rotate_left; (first | omega | (simp only [World.size_alloc, World.size_setCell, size_drewN, World.size_drew] <;> omega)); (first | omega | (simp only [World.size_alloc, World.size_setCell, size_drewN, World.size_drew] <;> omega))))) (by (first | omega | (simp only [World.size_alloc, World.size_setCell, size_drewN, World.size_drew] <;> omega))) (by (first | omega | (simp only [World.size_alloc, World.size_setCell, size_drewN, World.size_drew] <;> omega))), by go_cell, by go_cell⟩

set_option maxRecDepth 100000 in
set_option maxHeartbeats 4000000 in
theorem stmt_label (t : ByteArray) (x : Nd) (hx : StmtOK x) : StmtOK (.mk ⟨#[108, 97, 98, 101, 108]⟩ t [x]) := by
  intro kv w N bb m l hn hs0
  obtain ⟨a, cap, hv, -, -⟩ := hn.slice
  subst hv
  have hN1 := hs0.hN
  have hN2 := hs0.hb
  have hN3 := hs0.hm
  have z0 := hs0.sz
  have HV := hide (show bS (.mk ⟨#[108, 97, 98, 101, 108]⟩ t [x]) l = mkLabel l t (bS x l.tail.tail) by simp [bS])
  have Hx := hide hx
  clear hx
  simp only [Nd.kids_mk, Nd.kind_mk, Nd.text_mk, List.length_cons, List.length_nil] at hn ⊢
  go_enter Tryz.func51, Tryz.ntmps51
  go_wp2_with fail
  refine (ident_b (N := N) (m := m) (by repeat (first | with_reducible assumption | with_reducible apply Bst.alloc | with_reducible apply Bst.drew | with_reducible apply Bst.drewN | (with_reducible apply Bst.set1; rotate_left; (first | omega | (simp only [World.size_alloc, World.size_setCell, size_drewN, World.size_drew] <;> omega))))) _).mono ?_
  rintro e w1 ⟨p1, rfl, ha1, hs1, hb1⟩
  dsimp only [mkName] at ha1 hs1
  have z1 := hb1.le
  try simp only [World.size_alloc, World.size_setCell, size_drewN, World.size_drew] at z1
  obtain ⟨c1_0, f1_0, l1_0, n1_0, m1_0⟩ := hb1.facts (b := w.heap.size) (by (first | omega | (simp only [World.size_alloc, World.size_setCell, size_drewN, World.size_drew] <;> omega))) (by (first | omega | (simp only [World.size_alloc, World.size_setCell, size_drewN, World.size_drew] <;> omega)))
  go_wp2_with fail
  refine (next_any (N := N) (m := m) (by repeat (first | with_reducible assumption | with_reducible apply Bst.alloc | with_reducible apply Bst.drew | with_reducible apply Bst.drewN | (with_reducible apply Bst.set1; rotate_left; (first | omega | (simp only [World.size_alloc, World.size_setCell, size_drewN, World.size_drew] <;> omega)))))).mono ?_
  rintro e w2 ⟨rfl, hs2, hb2⟩
  have z2 := hb2.le
  try simp only [World.size_alloc, World.size_setCell, size_drewN, World.size_drew] at z2
  obtain ⟨c2_0, f2_0, l2_0, n2_0, m2_0⟩ := hb2.facts (b := w.heap.size) (by (first | omega | (simp only [World.size_alloc, World.size_setCell, size_drewN, World.size_drew] <;> omega))) (by (first | omega | (simp only [World.size_alloc, World.size_setCell, size_drewN, World.size_drew] <;> omega)))
  go_wp2_with fail
  refine (kid_b (N := N) (m := m) (by repeat (first | with_reducible assumption | with_reducible apply Bst.alloc | with_reducible apply Bst.drew | with_reducible apply Bst.drewN | (with_reducible apply Bst.set1; rotate_left; (first | omega | (simp only [World.size_alloc, World.size_setCell, size_drewN, World.size_drew] <;> omega))))) (NdK.stay (Nat.le_refl _) (But.same (lb := bb) (by repeat (first | with_reducible exact But.refl _ _ | with_reducible refine But.alloc ?_ _ | (with_reducible refine But.set1 ?_ ?_ _ _; rotate_left; (first | omega | (simp only [World.size_alloc, World.size_setCell, size_drewN, World.size_drew] <;> omega))) | with_reducible refine But.drew ?_ | with_reducible refine But.drewN ?_ _ | with_reducible refine But.trans ?_ (by assumption))) (by (first | omega | (simp only [World.size_alloc, World.size_setCell, size_drewN, World.size_drew] <;> omega))) (by (first | omega | (simp only [World.size_alloc, World.size_setCell, size_drewN, World.size_drew] <;> omega)))) _ _ hn) 0 x rfl).mono ?_
  rintro e w3 ⟨kv3, rfl, hk3, hs3, hb3⟩
  have z3 := hb3.le
  try simp only [World.size_alloc, World.size_setCell, size_drewN, World.size_drew] at z3
  obtain ⟨c3_0, f3_0, l3_0, n3_0, m3_0⟩ := hb3.facts (b := w.heap.size) (by (first | omega | (simp only [World.size_alloc, World.size_setCell, size_drewN, World.size_drew] <;> omega))) (by (first | omega | (simp only [World.size_alloc, World.size_setCell, size_drewN, World.size_drew] <;> omega)))
  obtain ⟨c3_1, f3_1, l3_1, n3_1, m3_1⟩ := hb3.facts (b := w2.heap.size) (by (first | omega | (simp only [World.size_alloc, World.size_setCell, size_drewN, World.size_drew] <;> omega))) (by (first | omega | (simp only [World.size_alloc, World.size_setCell, size_drewN, World.size_drew] <;> omega)))
  go_wp2_with fail
  refine (Hx.out _ _ N bb m _ hk3 (by repeat (first | with_reducible assumption | with_reducible apply Bst.alloc | with_reducible apply Bst.drew | with_reducible apply Bst.drewN | (with_reducible apply Bst.set1; rotate_left; (first | omega | (simp only [World.size_alloc, World.size_setCell, size_drewN, World.size_drew] <;> omega)))))).mono ?_
  rintro e w4 ⟨v4, rfl, ha4, hs4, hb4⟩
  obtain ⟨p4, rfl, hp4⟩ := ha4.ptr
  have z4 := hb4.le
  try simp only [World.size_alloc, World.size_setCell, size_drewN, World.size_drew] at z4
  obtain ⟨c4_0, f4_0, l4_0, n4_0, m4_0⟩ := hb4.facts (b := w.heap.size) (by (first | omega | (simp only [World.size_alloc, World.size_setCell, size_drewN, World.size_drew] <;> omega))) (by (first | omega | (simp only [World.size_alloc, World.size_setCell, size_drewN, World.size_drew] <;> omega)))
  obtain ⟨c4_1, f4_1, l4_1, n4_1, m4_1⟩ := hb4.facts (b := w2.heap.size) (by (first | omega | (simp only [World.size_alloc, World.size_setCell, size_drewN, World.size_drew] <;> omega))) (by (first | omega | (simp only [World.size_alloc, World.size_setCell, size_drewN, World.size_drew] <;> omega)))
  go_wp2_with fail
  go_ret
  unfold EPost
  rw [HV.out]
  unfold mkLabel
  dsimp only
  refine ⟨_, rfl, ?_, (by repeat (first | with_reducible assumption | with_reducible apply Bst.alloc | with_reducible apply Bst.drew | with_reducible apply Bst.drewN | (with_reducible apply Bst.set1; rotate_left; (first | omega | (simp only [World.size_alloc, World.size_setCell, size_drewN, World.size_drew] <;> omega))))), (by repeat (first | with_reducible exact But.refl _ _ | with_reducible refine But.alloc ?_ _ | (with_reducible refine But.set1 ?_ ?_ _ _; rotate_left; (first | omega | (simp only [World.size_alloc, World.size_setCell, size_drewN, World.size_drew] <;> omega))) | with_reducible refine But.drew ?_ | with_reducible refine But.drewN ?_ _ | with_reducible refine But.trans ?_ (by assumption)))⟩
  exact At_label.2 ⟨w2.heap.size, rfl, ⟨by (first | omega | (simp only [World.size_alloc, World.size_setCell, size_drewN, World.size_drew] <;> omega)), by (first | omega | (simp only [World.size_alloc, World.size_setCell, size_drewN, World.size_drew] <;> omega))⟩, _, _, by go_cell, ha1.wide (by repeat (first | with_reducible exact MidI.refl _ _ _ | (with_reducible refine MidI.alloc ?_ ?_ _; rotate_left; (first | omega | (simp only [World.size_alloc, World.size_setCell, size_drewN, World.size_drew] <;> omega))) | (with_reducible refine MidI.set1 ?_ ?_ _ _; rotate_left; (first | omega | (simp only [World.size_alloc, World.size_setCell, size_drewN, World.size_drew] <;> omega))) | with_reducible refine MidI.drew ?_ | with_reducible refine MidI.drewN ?_ _ | (with_reducible refine MidI.but ?_ (by assumption) ?_ ?_; rotate_left; (first | omega | (simp only [World.size_alloc, World.size_setCell, size_drewN, World.size_drew] <;> omega)); (first | omega | (simp only [World.size_alloc, World.size_setCell, size_drewN, World.size_drew] <;> omega))))) (by (first | omega | (simp only [World.size_alloc, World.size_setCell, size_drewN, World.size_drew] <;> omega))) (by (first | omega | (simp only [World.size_alloc, World.size_setCell, size_drewN, World.size_drew] <;> omega))), by go_cell, by go_cell, ha4.wide (by repeat (first | with_reducible exact MidI.refl _ _ _ | (with_reducible refine MidI.alloc ?_ ?_ _; rotate_left; (first | omega | (simp only [World.size_alloc, World.size_setCell, size_drewN, World.size_drew] <;> omega))) | (with_reducible refine MidI.set1 ?_ ?_ _ _; rotate_left; (first | omega | (simp only [World.size_alloc, World.size_setCell, size_drewN, World.size_drew] <;> omega))) | with_reducible refine MidI.drew ?_ | with_reducible refine MidI.drewN ?_ _ | (with_reducible refine MidI.but ?_ (by assumption) ?_ ?_; rotate_left; (first | omega | (simp only [World.size_alloc, World.size_setCell, size_drewN, World.size_drew] <;> omega)); (first | omega | (simp only [World.size_alloc, World.size_setCell, size_drewN, World.size_drew] <;> omega))))) (by (first | omega | (simp only [World.size_alloc, World.size_setCell, size_drewN, World.size_drew] <;> omega))) (by (first | omega | (simp only [World.size_alloc, World.size_setCell, size_drewN, World.size_drew] <;> omega)))⟩

/-- The builder's call answers on this node. -/
def CallOK (n : Nd) : Prop := ∀ (kv : Value) (w : World) (N bb m : Nat) (l : List Int), NdK N w n kv → Bst N bb m l w →
  Calls Tryz.prog 73 #[.pointer (some ⟨bb, 0, none⟩), .agg #[.string n.kind, .string n.text, kv]] w (PPost 124 N bb m (bE n l) w)

set_option maxRecDepth 100000 in
set_option maxHeartbeats 4000000 in
theorem stmt_go (t : ByteArray) (x : Nd) (hx : CallOK x) : StmtOK (.mk ⟨#[103, 111]⟩ t [x]) := by
  intro kv w N bb m l hn hs0
  obtain ⟨a, cap, hv, -, -⟩ := hn.slice
  subst hv
  have hN1 := hs0.hN
  have hN2 := hs0.hb
  have hN3 := hs0.hm
  have z0 := hs0.sz
  have HV := hide (show bS (.mk ⟨#[103, 111]⟩ t [x]) l = mkGo l (bE x l.tail) by simp [bS])
  have Hx := hide hx
  clear hx
  simp only [Nd.kids_mk, Nd.kind_mk, Nd.text_mk, List.length_cons, List.length_nil] at hn ⊢
  go_enter Tryz.func51, Tryz.ntmps51
  go_wp2_with fail
  refine (next_any (N := N) (m := m) (by repeat (first | with_reducible assumption | with_reducible apply Bst.alloc | with_reducible apply Bst.drew | with_reducible apply Bst.drewN | (with_reducible apply Bst.set1; rotate_left; (first | omega | (simp only [World.size_alloc, World.size_setCell, size_drewN, World.size_drew] <;> omega)))))).mono ?_
  rintro e w1 ⟨rfl, hs1, hb1⟩
  have z1 := hb1.le
  try simp only [World.size_alloc, World.size_setCell, size_drewN, World.size_drew] at z1
  obtain ⟨c1_0, f1_0, l1_0, n1_0, m1_0⟩ := hb1.facts (b := w.heap.size) (by (first | omega | (simp only [World.size_alloc, World.size_setCell, size_drewN, World.size_drew] <;> omega))) (by (first | omega | (simp only [World.size_alloc, World.size_setCell, size_drewN, World.size_drew] <;> omega)))
  go_wp2_with fail
  refine (kid_b (N := N) (m := m) (by repeat (first | with_reducible assumption | with_reducible apply Bst.alloc | with_reducible apply Bst.drew | with_reducible apply Bst.drewN | (with_reducible apply Bst.set1; rotate_left; (first | omega | (simp only [World.size_alloc, World.size_setCell, size_drewN, World.size_drew] <;> omega))))) (NdK.stay (Nat.le_refl _) (But.same (lb := bb) (by repeat (first | with_reducible exact But.refl _ _ | with_reducible refine But.alloc ?_ _ | (with_reducible refine But.set1 ?_ ?_ _ _; rotate_left; (first | omega | (simp only [World.size_alloc, World.size_setCell, size_drewN, World.size_drew] <;> omega))) | with_reducible refine But.drew ?_ | with_reducible refine But.drewN ?_ _ | with_reducible refine But.trans ?_ (by assumption))) (by (first | omega | (simp only [World.size_alloc, World.size_setCell, size_drewN, World.size_drew] <;> omega))) (by (first | omega | (simp only [World.size_alloc, World.size_setCell, size_drewN, World.size_drew] <;> omega)))) _ _ hn) 0 x rfl).mono ?_
  rintro e w2 ⟨kv2, rfl, hk2, hs2, hb2⟩
  have z2 := hb2.le
  try simp only [World.size_alloc, World.size_setCell, size_drewN, World.size_drew] at z2
  obtain ⟨c2_0, f2_0, l2_0, n2_0, m2_0⟩ := hb2.facts (b := w.heap.size) (by (first | omega | (simp only [World.size_alloc, World.size_setCell, size_drewN, World.size_drew] <;> omega))) (by (first | omega | (simp only [World.size_alloc, World.size_setCell, size_drewN, World.size_drew] <;> omega)))
  obtain ⟨c2_1, f2_1, l2_1, n2_1, m2_1⟩ := hb2.facts (b := w1.heap.size) (by (first | omega | (simp only [World.size_alloc, World.size_setCell, size_drewN, World.size_drew] <;> omega))) (by (first | omega | (simp only [World.size_alloc, World.size_setCell, size_drewN, World.size_drew] <;> omega)))
  go_wp2_with fail
  refine (Hx.out _ _ N bb m _ hk2 (by repeat (first | with_reducible assumption | with_reducible apply Bst.alloc | with_reducible apply Bst.drew | with_reducible apply Bst.drewN | (with_reducible apply Bst.set1; rotate_left; (first | omega | (simp only [World.size_alloc, World.size_setCell, size_drewN, World.size_drew] <;> omega)))))).mono ?_
  rintro e w3 ⟨p3, rfl, ha3, hs3, hb3⟩
  have z3 := hb3.le
  try simp only [World.size_alloc, World.size_setCell, size_drewN, World.size_drew] at z3
  obtain ⟨c3_0, f3_0, l3_0, n3_0, m3_0⟩ := hb3.facts (b := w.heap.size) (by (first | omega | (simp only [World.size_alloc, World.size_setCell, size_drewN, World.size_drew] <;> omega))) (by (first | omega | (simp only [World.size_alloc, World.size_setCell, size_drewN, World.size_drew] <;> omega)))
  obtain ⟨c3_1, f3_1, l3_1, n3_1, m3_1⟩ := hb3.facts (b := w1.heap.size) (by (first | omega | (simp only [World.size_alloc, World.size_setCell, size_drewN, World.size_drew] <;> omega))) (by (first | omega | (simp only [World.size_alloc, World.size_setCell, size_drewN, World.size_drew] <;> omega)))
  go_wp2_with fail
  go_ret
  unfold EPost
  rw [HV.out]
  unfold mkGo
  dsimp only
  refine ⟨_, rfl, ?_, (by repeat (first | with_reducible assumption | with_reducible apply Bst.alloc | with_reducible apply Bst.drew | with_reducible apply Bst.drewN | (with_reducible apply Bst.set1; rotate_left; (first | omega | (simp only [World.size_alloc, World.size_setCell, size_drewN, World.size_drew] <;> omega))))), (by repeat (first | with_reducible exact But.refl _ _ | with_reducible refine But.alloc ?_ _ | (with_reducible refine But.set1 ?_ ?_ _ _; rotate_left; (first | omega | (simp only [World.size_alloc, World.size_setCell, size_drewN, World.size_drew] <;> omega))) | with_reducible refine But.drew ?_ | with_reducible refine But.drewN ?_ _ | with_reducible refine But.trans ?_ (by assumption)))⟩
  exact At_goS.2 ⟨w1.heap.size, rfl, ⟨by (first | omega | (simp only [World.size_alloc, World.size_setCell, size_drewN, World.size_drew] <;> omega)), by (first | omega | (simp only [World.size_alloc, World.size_setCell, size_drewN, World.size_drew] <;> omega))⟩, _, by go_cell, by go_cell, ha3.wide (by repeat (first | with_reducible exact MidI.refl _ _ _ | (with_reducible refine MidI.alloc ?_ ?_ _; rotate_left; (first | omega | (simp only [World.size_alloc, World.size_setCell, size_drewN, World.size_drew] <;> omega))) | (with_reducible refine MidI.set1 ?_ ?_ _ _; rotate_left; (first | omega | (simp only [World.size_alloc, World.size_setCell, size_drewN, World.size_drew] <;> omega))) | with_reducible refine MidI.drew ?_ | with_reducible refine MidI.drewN ?_ _ | (with_reducible refine MidI.but ?_ (by assumption) ?_ ?_; rotate_left; (first | omega | (simp only [World.size_alloc, World.size_setCell, size_drewN, World.size_drew] <;> omega)); (first | omega | (simp only [World.size_alloc, World.size_setCell, size_drewN, World.size_drew] <;> omega))))) (by (first | omega | (simp only [World.size_alloc, World.size_setCell, size_drewN, World.size_drew] <;> omega))) (by (first | omega | (simp only [World.size_alloc, World.size_setCell, size_drewN, World.size_drew] <;> omega)))⟩

set_option maxRecDepth 100000 in
set_option maxHeartbeats 4000000 in
theorem stmt_defer (t : ByteArray) (x : Nd) (hx : CallOK x) : StmtOK (.mk ⟨#[100, 101, 102, 101, 114]⟩ t [x]) := by
  intro kv w N bb m l hn hs0
  obtain ⟨a, cap, hv, -, -⟩ := hn.slice
  subst hv
  have hN1 := hs0.hN
  have hN2 := hs0.hb
  have hN3 := hs0.hm
  have z0 := hs0.sz
  have HV := hide (show bS (.mk ⟨#[100, 101, 102, 101, 114]⟩ t [x]) l = mkDefer l (bE x l.tail) by simp [bS])
  have Hx := hide hx
  clear hx
  simp only [Nd.kids_mk, Nd.kind_mk, Nd.text_mk, List.length_cons, List.length_nil] at hn ⊢
  go_enter Tryz.func51, Tryz.ntmps51
  go_wp2_with fail
  refine (next_any (N := N) (m := m) (by repeat (first | with_reducible assumption | with_reducible apply Bst.alloc | with_reducible apply Bst.drew | with_reducible apply Bst.drewN | (with_reducible apply Bst.set1; rotate_left; (first | omega | (simp only [World.size_alloc, World.size_setCell, size_drewN, World.size_drew] <;> omega)))))).mono ?_
  rintro e w1 ⟨rfl, hs1, hb1⟩
  have z1 := hb1.le
  try simp only [World.size_alloc, World.size_setCell, size_drewN, World.size_drew] at z1
  obtain ⟨c1_0, f1_0, l1_0, n1_0, m1_0⟩ := hb1.facts (b := w.heap.size) (by (first | omega | (simp only [World.size_alloc, World.size_setCell, size_drewN, World.size_drew] <;> omega))) (by (first | omega | (simp only [World.size_alloc, World.size_setCell, size_drewN, World.size_drew] <;> omega)))
  go_wp2_with fail
  refine (kid_b (N := N) (m := m) (by repeat (first | with_reducible assumption | with_reducible apply Bst.alloc | with_reducible apply Bst.drew | with_reducible apply Bst.drewN | (with_reducible apply Bst.set1; rotate_left; (first | omega | (simp only [World.size_alloc, World.size_setCell, size_drewN, World.size_drew] <;> omega))))) (NdK.stay (Nat.le_refl _) (But.same (lb := bb) (by repeat (first | with_reducible exact But.refl _ _ | with_reducible refine But.alloc ?_ _ | (with_reducible refine But.set1 ?_ ?_ _ _; rotate_left; (first | omega | (simp only [World.size_alloc, World.size_setCell, size_drewN, World.size_drew] <;> omega))) | with_reducible refine But.drew ?_ | with_reducible refine But.drewN ?_ _ | with_reducible refine But.trans ?_ (by assumption))) (by (first | omega | (simp only [World.size_alloc, World.size_setCell, size_drewN, World.size_drew] <;> omega))) (by (first | omega | (simp only [World.size_alloc, World.size_setCell, size_drewN, World.size_drew] <;> omega)))) _ _ hn) 0 x rfl).mono ?_
  rintro e w2 ⟨kv2, rfl, hk2, hs2, hb2⟩
  have z2 := hb2.le
  try simp only [World.size_alloc, World.size_setCell, size_drewN, World.size_drew] at z2
  obtain ⟨c2_0, f2_0, l2_0, n2_0, m2_0⟩ := hb2.facts (b := w.heap.size) (by (first | omega | (simp only [World.size_alloc, World.size_setCell, size_drewN, World.size_drew] <;> omega))) (by (first | omega | (simp only [World.size_alloc, World.size_setCell, size_drewN, World.size_drew] <;> omega)))
  obtain ⟨c2_1, f2_1, l2_1, n2_1, m2_1⟩ := hb2.facts (b := w1.heap.size) (by (first | omega | (simp only [World.size_alloc, World.size_setCell, size_drewN, World.size_drew] <;> omega))) (by (first | omega | (simp only [World.size_alloc, World.size_setCell, size_drewN, World.size_drew] <;> omega)))
  go_wp2_with fail
  refine (Hx.out _ _ N bb m _ hk2 (by repeat (first | with_reducible assumption | with_reducible apply Bst.alloc | with_reducible apply Bst.drew | with_reducible apply Bst.drewN | (with_reducible apply Bst.set1; rotate_left; (first | omega | (simp only [World.size_alloc, World.size_setCell, size_drewN, World.size_drew] <;> omega)))))).mono ?_
  rintro e w3 ⟨p3, rfl, ha3, hs3, hb3⟩
  have z3 := hb3.le
  try simp only [World.size_alloc, World.size_setCell, size_drewN, World.size_drew] at z3
  obtain ⟨c3_0, f3_0, l3_0, n3_0, m3_0⟩ := hb3.facts (b := w.heap.size) (by (first | omega | (simp only [World.size_alloc, World.size_setCell, size_drewN, World.size_drew] <;> omega))) (by (first | omega | (simp only [World.size_alloc, World.size_setCell, size_drewN, World.size_drew] <;> omega)))
  obtain ⟨c3_1, f3_1, l3_1, n3_1, m3_1⟩ := hb3.facts (b := w1.heap.size) (by (first | omega | (simp only [World.size_alloc, World.size_setCell, size_drewN, World.size_drew] <;> omega))) (by (first | omega | (simp only [World.size_alloc, World.size_setCell, size_drewN, World.size_drew] <;> omega)))
  go_wp2_with fail
  go_ret
  unfold EPost
  rw [HV.out]
  unfold mkDefer
  dsimp only
  refine ⟨_, rfl, ?_, (by repeat (first | with_reducible assumption | with_reducible apply Bst.alloc | with_reducible apply Bst.drew | with_reducible apply Bst.drewN | (with_reducible apply Bst.set1; rotate_left; (first | omega | (simp only [World.size_alloc, World.size_setCell, size_drewN, World.size_drew] <;> omega))))), (by repeat (first | with_reducible exact But.refl _ _ | with_reducible refine But.alloc ?_ _ | (with_reducible refine But.set1 ?_ ?_ _ _; rotate_left; (first | omega | (simp only [World.size_alloc, World.size_setCell, size_drewN, World.size_drew] <;> omega))) | with_reducible refine But.drew ?_ | with_reducible refine But.drewN ?_ _ | with_reducible refine But.trans ?_ (by assumption)))⟩
  exact At_deferS.2 ⟨w1.heap.size, rfl, ⟨by (first | omega | (simp only [World.size_alloc, World.size_setCell, size_drewN, World.size_drew] <;> omega)), by (first | omega | (simp only [World.size_alloc, World.size_setCell, size_drewN, World.size_drew] <;> omega))⟩, _, by go_cell, by go_cell, ha3.wide (by repeat (first | with_reducible exact MidI.refl _ _ _ | (with_reducible refine MidI.alloc ?_ ?_ _; rotate_left; (first | omega | (simp only [World.size_alloc, World.size_setCell, size_drewN, World.size_drew] <;> omega))) | (with_reducible refine MidI.set1 ?_ ?_ _ _; rotate_left; (first | omega | (simp only [World.size_alloc, World.size_setCell, size_drewN, World.size_drew] <;> omega))) | with_reducible refine MidI.drew ?_ | with_reducible refine MidI.drewN ?_ _ | (with_reducible refine MidI.but ?_ (by assumption) ?_ ?_; rotate_left; (first | omega | (simp only [World.size_alloc, World.size_setCell, size_drewN, World.size_drew] <;> omega)); (first | omega | (simp only [World.size_alloc, World.size_setCell, size_drewN, World.size_drew] <;> omega))))) (by (first | omega | (simp only [World.size_alloc, World.size_setCell, size_drewN, World.size_drew] <;> omega))) (by (first | omega | (simp only [World.size_alloc, World.size_setCell, size_drewN, World.size_drew] <;> omega)))⟩

set_option maxRecDepth 100000 in
set_option maxHeartbeats 4000000 in
theorem stmt_block (t : ByteArray) (ks : List Nd) (hks : ∀ k, k ∈ ks → StmtOK k) (hlen : ks.length ≤ 400) : StmtOK (.mk ⟨#[98, 108, 111, 99, 107]⟩ t ks) := by
  intro kv w N bb m l hn hs0
  have HB := hide (block_b (.mk ⟨#[98, 108, 111, 99, 107]⟩ t ks) hks hlen)
  clear hks
  obtain ⟨a, cap, hv, -, -⟩ := hn.slice
  subst hv
  have hN1 := hs0.hN
  have hN2 := hs0.hb
  have hN3 := hs0.hm
  have z0 := hs0.sz
  have HV := hide (show bS (.mk ⟨#[98, 108, 111, 99, 107]⟩ t ks) l = mkBlock l (bSs ks l.tail) by (match ks with | [] => simp [bS] | [a] => simp [bS] | [a, b] => simp [bS] | [a, b, c] => simp [bS] | [a, b, c, d] => simp [bS] | a :: b :: c :: d :: e :: r => simp [bS]))
  simp only [Nd.kids_mk, Nd.kind_mk, Nd.text_mk, List.length_cons, List.length_nil] at hn ⊢
  go_enter Tryz.func51, Tryz.ntmps51
  go_wp2_with fail
  refine (HB.out _ _ N bb m l (NdK.stay (Nat.le_refl _) (But.same (lb := bb) (by repeat (first | with_reducible exact But.refl _ _ | with_reducible refine But.alloc ?_ _ | (with_reducible refine But.set1 ?_ ?_ _ _; rotate_left; (first | omega | (simp only [World.size_alloc, World.size_setCell, size_drewN, World.size_drew] <;> omega))) | with_reducible refine But.drew ?_ | with_reducible refine But.drewN ?_ _ | with_reducible refine But.trans ?_ (by assumption))) (by (first | omega | (simp only [World.size_alloc, World.size_setCell, size_drewN, World.size_drew] <;> omega))) (by (first | omega | (simp only [World.size_alloc, World.size_setCell, size_drewN, World.size_drew] <;> omega)))) _ _ hn) (by repeat (first | with_reducible assumption | with_reducible apply Bst.alloc | with_reducible apply Bst.drew | with_reducible apply Bst.drewN | (with_reducible apply Bst.set1; rotate_left; (first | omega | (simp only [World.size_alloc, World.size_setCell, size_drewN, World.size_drew] <;> omega)))))).mono ?_
  rintro e w1 ⟨p1, rfl, ha1, hs1, hb1⟩
  rw [show bB (.mk ⟨#[98, 108, 111, 99, 107]⟩ t ks) l = mkBlock l (bSs ks l.tail) by simp [bB]] at ha1 hs1
  unfold mkBlock at ha1 hs1
  dsimp only at ha1 hs1
  have z1 := hb1.le
  try simp only [World.size_alloc, World.size_setCell, size_drewN, World.size_drew] at z1
  obtain ⟨c1_0, f1_0, l1_0, n1_0, m1_0⟩ := hb1.facts (b := w.heap.size) (by (first | omega | (simp only [World.size_alloc, World.size_setCell, size_drewN, World.size_drew] <;> omega))) (by (first | omega | (simp only [World.size_alloc, World.size_setCell, size_drewN, World.size_drew] <;> omega)))
  go_wp2_with fail
  go_ret
  unfold EPost
  rw [HV.out]
  unfold mkBlock
  dsimp only
  refine ⟨_, rfl, ?_, (by repeat (first | with_reducible assumption | with_reducible apply Bst.alloc | with_reducible apply Bst.drew | with_reducible apply Bst.drewN | (with_reducible apply Bst.set1; rotate_left; (first | omega | (simp only [World.size_alloc, World.size_setCell, size_drewN, World.size_drew] <;> omega))))), (by repeat (first | with_reducible exact But.refl _ _ | with_reducible refine But.alloc ?_ _ | (with_reducible refine But.set1 ?_ ?_ _ _; rotate_left; (first | omega | (simp only [World.size_alloc, World.size_setCell, size_drewN, World.size_drew] <;> omega))) | with_reducible refine But.drew ?_ | with_reducible refine But.drewN ?_ _ | with_reducible refine But.trans ?_ (by assumption)))⟩
  exact ha1.wide (by repeat (first | with_reducible exact MidI.refl _ _ _ | (with_reducible refine MidI.alloc ?_ ?_ _; rotate_left; (first | omega | (simp only [World.size_alloc, World.size_setCell, size_drewN, World.size_drew] <;> omega))) | (with_reducible refine MidI.set1 ?_ ?_ _ _; rotate_left; (first | omega | (simp only [World.size_alloc, World.size_setCell, size_drewN, World.size_drew] <;> omega))) | with_reducible refine MidI.drew ?_ | with_reducible refine MidI.drewN ?_ _ | (with_reducible refine MidI.but ?_ (by assumption) ?_ ?_; rotate_left; (first | omega | (simp only [World.size_alloc, World.size_setCell, size_drewN, World.size_drew] <;> omega)); (first | omega | (simp only [World.size_alloc, World.size_setCell, size_drewN, World.size_drew] <;> omega))))) (by (first | omega | (simp only [World.size_alloc, World.size_setCell, size_drewN, World.size_drew] <;> omega))) (by (first | omega | (simp only [World.size_alloc, World.size_setCell, size_drewN, World.size_drew] <;> omega)))

set_option maxRecDepth 100000 in
set_option maxHeartbeats 4000000 in
theorem stmt_return (t : ByteArray) (ks : List Nd) (hks : ∀ k, k ∈ ks → ExprOK k) (hlen : ks.length ≤ 400) : StmtOK (.mk ⟨#[114, 101, 116, 117, 114, 110]⟩ t ks) := by
  intro kv w N bb m l hn hs0
  have HB := hide hks
  clear hks
  obtain ⟨a, cap, hv, -, -⟩ := hn.slice
  subst hv
  have hN1 := hs0.hN
  have hN2 := hs0.hb
  have hN3 := hs0.hm
  have z0 := hs0.sz
  have HV := hide (show bS (.mk ⟨#[114, 101, 116, 117, 114, 110]⟩ t ks) l = mkRet l (bEs true ks l.tail) by (match ks with | [] => simp [bS] | [a] => simp [bS] | [a, b] => simp [bS] | [a, b, c] => simp [bS] | [a, b, c, d] => simp [bS] | a :: b :: c :: d :: e :: r => simp [bS]))
  simp only [Nd.kids_mk, Nd.kind_mk, Nd.text_mk, List.length_cons, List.length_nil] at hn ⊢
  go_enter Tryz.func51, Tryz.ntmps51
  go_wp2_with fail
  refine (next_any (N := N) (m := m) (by repeat (first | with_reducible assumption | with_reducible apply Bst.alloc | with_reducible apply Bst.drew | with_reducible apply Bst.drewN | (with_reducible apply Bst.set1; rotate_left; (first | omega | (simp only [World.size_alloc, World.size_setCell, size_drewN, World.size_drew] <;> omega)))))).mono ?_
  rintro e w1 ⟨rfl, hs1, hb1⟩
  have z1 := hb1.le
  try simp only [World.size_alloc, World.size_setCell, size_drewN, World.size_drew] at z1
  obtain ⟨c1_0, f1_0, l1_0, n1_0, m1_0⟩ := hb1.facts (b := w.heap.size) (by (first | omega | (simp only [World.size_alloc, World.size_setCell, size_drewN, World.size_drew] <;> omega))) (by (first | omega | (simp only [World.size_alloc, World.size_setCell, size_drewN, World.size_drew] <;> omega)))
  go_wp2_with fail
  have hkh : NdK N (w1.alloc (.cells #[.int .i64 (hd l), .slice none 0 0] 188)) (.mk ⟨#[114, 101, 116, 117, 114, 110]⟩ t ks) (.slice a ks.length cap) := (NdK.stay (Nat.le_refl _) (But.same (lb := bb) (by repeat (first | with_reducible exact But.refl _ _ | with_reducible refine But.alloc ?_ _ | (with_reducible refine But.set1 ?_ ?_ _ _; rotate_left; (first | omega | (simp only [World.size_alloc, World.size_setCell, size_drewN, World.size_drew] <;> omega))) | with_reducible refine But.drew ?_ | with_reducible refine But.drewN ?_ _ | with_reducible refine But.trans ?_ (by assumption))) (by (first | omega | (simp only [World.size_alloc, World.size_setCell, size_drewN, World.size_drew] <;> omega))) (by (first | omega | (simp only [World.size_alloc, World.size_setCell, size_drewN, World.size_drew] <;> omega)))) _ _ hn)
  refine (exprs_b ks HB.out hlen _ _ N bb m _ (NdK_iff.1 hkh) (by repeat (first | with_reducible assumption | with_reducible apply Bst.alloc | with_reducible apply Bst.drew | with_reducible apply Bst.drewN | (with_reducible apply Bst.set1; rotate_left; (first | omega | (simp only [World.size_alloc, World.size_setCell, size_drewN, World.size_drew] <;> omega)))))).mono ?_
  rintro e w2 ⟨v2, rfl, ha2, hs2, hb2⟩
  obtain ⟨ea, en, ec, rfl⟩ := ha2.slice
  have z2 := hb2.le
  try simp only [World.size_alloc, World.size_setCell, size_drewN, World.size_drew] at z2
  obtain ⟨c2_0, f2_0, l2_0, n2_0, m2_0⟩ := hb2.facts (b := w.heap.size) (by (first | omega | (simp only [World.size_alloc, World.size_setCell, size_drewN, World.size_drew] <;> omega))) (by (first | omega | (simp only [World.size_alloc, World.size_setCell, size_drewN, World.size_drew] <;> omega)))
  obtain ⟨c2_1, f2_1, l2_1, n2_1, m2_1⟩ := hb2.facts (b := w1.heap.size) (by (first | omega | (simp only [World.size_alloc, World.size_setCell, size_drewN, World.size_drew] <;> omega))) (by (first | omega | (simp only [World.size_alloc, World.size_setCell, size_drewN, World.size_drew] <;> omega)))
  go_wp2_with fail
  go_ret
  unfold EPost
  rw [HV.out]
  unfold mkRet
  dsimp only
  refine ⟨_, rfl, ?_, (by repeat (first | with_reducible assumption | with_reducible apply Bst.alloc | with_reducible apply Bst.drew | with_reducible apply Bst.drewN | (with_reducible apply Bst.set1; rotate_left; (first | omega | (simp only [World.size_alloc, World.size_setCell, size_drewN, World.size_drew] <;> omega))))), (by repeat (first | with_reducible exact But.refl _ _ | with_reducible refine But.alloc ?_ _ | (with_reducible refine But.set1 ?_ ?_ _ _; rotate_left; (first | omega | (simp only [World.size_alloc, World.size_setCell, size_drewN, World.size_drew] <;> omega))) | with_reducible refine But.drew ?_ | with_reducible refine But.drewN ?_ _ | with_reducible refine But.trans ?_ (by assumption)))⟩
  exact At_ret.2 ⟨w1.heap.size, rfl, ⟨by (first | omega | (simp only [World.size_alloc, World.size_setCell, size_drewN, World.size_drew] <;> omega)), by (first | omega | (simp only [World.size_alloc, World.size_setCell, size_drewN, World.size_drew] <;> omega))⟩, _, by go_cell, by go_cell, ha2.wide (by repeat (first | with_reducible exact MidI.refl _ _ _ | (with_reducible refine MidI.alloc ?_ ?_ _; rotate_left; (first | omega | (simp only [World.size_alloc, World.size_setCell, size_drewN, World.size_drew] <;> omega))) | (with_reducible refine MidI.set1 ?_ ?_ _ _; rotate_left; (first | omega | (simp only [World.size_alloc, World.size_setCell, size_drewN, World.size_drew] <;> omega))) | with_reducible refine MidI.drew ?_ | with_reducible refine MidI.drewN ?_ _ | (with_reducible refine MidI.but ?_ (by assumption) ?_ ?_; rotate_left; (first | omega | (simp only [World.size_alloc, World.size_setCell, size_drewN, World.size_drew] <;> omega)); (first | omega | (simp only [World.size_alloc, World.size_setCell, size_drewN, World.size_drew] <;> omega))))) (by (first | omega | (simp only [World.size_alloc, World.size_setCell, size_drewN, World.size_drew] <;> omega))) (by (first | omega | (simp only [World.size_alloc, World.size_setCell, size_drewN, World.size_drew] <;> omega)))⟩

end Go.Proofs.YtkkgfgllfbahlaaGreatFmt
