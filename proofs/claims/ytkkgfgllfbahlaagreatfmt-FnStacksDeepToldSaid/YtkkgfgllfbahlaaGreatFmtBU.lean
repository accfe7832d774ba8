/- builder.stmt at every statement; build.
Type assertions to pointer types.
The conversions of go/ast's nodes: what is asked of them; kids, none. -/
import Derived.Test.YtkkgfgllfbahlaaGreatFmtBT
import Derived.Test.YtkkgfgllfbahlaaGreatFmtXt
import Derived.Test.YtkkgfgllfbahlaaGreatFmtTree
import Derived.Test.YtkkgfgllfbahlaaGreatFmtBld
set_option linter.unusedVariables false
set_option linter.unusedSimpArgs false
namespace Go.Proofs.YtkkgfgllfbahlaaGreatFmt
open Go Go.RowKit
set_option linter.unusedSimpArgs false

theorem expr_ok {x : Nd} (h : shE x = true) (hm : x.nodes ≤ 400) : ExprOK x := expr_any 400 x hm (Nat.le_refl _) h
theorem shE_call {t : ByteArray} {ks : List Nd} (h : shE (.mk ⟨#[99, 97, 108, 108]⟩ t ks) = true) : ∃ x r, ks = x :: r ∧ shE x = true ∧ ∀ k, k ∈ r → shE k = true := by
  rw [shE_eq] at h
  simp [arityOk] at h
  match ks, h with
  | [], h => simp at h
  | x :: r, h => exact ⟨x, r, rfl, h.1.2 x (by simp), fun k hk => h.1.2 k (by simp [hk])⟩
theorem call_ok {n : Nd} (hk : n.kd = [99, 97, 108, 108]) (h : shE n = true) (hm : n.nodes ≤ 400) : CallOK n := by
  obtain ⟨k, t, ks⟩ := n
  obtain rfl := ba_of hk
  obtain ⟨x, r, rfl, hx, hr⟩ := shE_call h
  simp only [Nd.nodes, nodesL] at hm
  intro kv w N bb m l hn hs
  have hbe : bE (.mk ⟨#[99, 97, 108, 108]⟩ t (x :: r)) l = mkCall (bE x l) (bEs true r (bE x l).2.tail) := by
    match r with
    | [] => simp [bE]
    | [y] => simp [bE]
    | y :: z :: r => simp [bE]
  rw [hbe]
  exact call_b (.mk ⟨#[99, 97, 108, 108]⟩ t (x :: r)) x r rfl (expr_ok hx (by omega)) (fun k hk => expr_ok (hr k hk) (by have := nodesL_mem hk; omega)) (by have := nodesL_length r; omega) kv w N bb m l hn hs

theorem simple_any {n : Nd} (h : shSimple n = true) (hm : n.nodes ≤ 400) : StmtOK n := by
  obtain ⟨k, t, ks⟩ := n
  have hks : ∀ x, x ∈ ks → x.nodes ≤ 400 := fun x hx => by have := nodesL_mem hx; simp only [Nd.nodes] at hm; omega
  by_cases h1 : k.toList = [101, 120, 112, 114, 101, 115, 115, 105, 111, 110]
  · obtain rfl := ba_of h1
    obtain ⟨a, rfl, ha⟩ := inv_expression h
    exact stmt_expression t a (expr_ok ha (hks a (by simp)))
  by_cases h2 : k.toList = [115, 116, 101, 112]
  · obtain rfl := ba_of h2
    obtain ⟨a, rfl, ha⟩ := inv_step h
    exact stmt_step t a (expr_ok ha (hks a (by simp)))
  by_cases h3 : k.toList = [115, 101, 110, 100]
  · obtain rfl := ba_of h3
    obtain ⟨a, b, rfl, ha, hb⟩ := inv_send h
    exact stmt_send t a b (expr_ok ha (hks a (by simp))) (expr_ok hb (hks b (by simp)))
  by_cases h4 : k.toList = [97, 115, 115, 105, 103, 110]
  · obtain rfl := ba_of h4
    obtain ⟨a, b, rfl, ha, hb⟩ := inv_assign h
    have ha := inv_list ha
    have hb := inv_list hb
    have hka := hks a (by simp)
    have hkb := hks b (by simp)
    rw [Nd.nodes_kids] at hka hkb
    exact stmt_assign t a b (fun k hk => expr_ok (ha.2 k hk) (by have := nodesL_mem hk; omega)) (by have := nodesL_length a.kids; omega) (fun k hk => expr_ok (hb.2 k hk) (by have := nodesL_mem hk; omega)) (by have := nodesL_length b.kids; omega)
  simp [shSimple, h1, h2, h3, h4] at h
theorem hit_or {n : Nd} {p : Prop} (h : miss n = true ∨ p) (hm : miss n = false) : p := by
  rcases h with h | h
  · rw [hm] at h; simp at h
  · exact h

theorem stmt_any : ∀ (m : Nat) (n : Nd), n.nodes ≤ m → m ≤ 400 → shS n = true → StmtOK n := by
  intro m
  induction m with
  | zero => intro n hm; have := n.nodes_pos; omega
  | succ m ih =>
    intro n hm h400 hs
    obtain ⟨k, t, ks⟩ := n
    have hks : ∀ x, x ∈ ks → x.nodes ≤ m := fun x hx => by have := nodesL_mem hx; simp only [Nd.nodes] at hm; omega
    have hlen : ks.length ≤ 400 := by have := nodesL_length ks; simp only [Nd.nodes] at hm; omega
    have hE : ∀ x, x ∈ ks → shE x = true → ExprOK x := fun x hx h => expr_ok h (by have := hks x hx; omega)
    have hB : ∀ x, x ∈ ks → shBlock x = true → BlockOK x := fun x hx hb => by
      have h1 := hks x hx
      rw [Nd.nodes_kids] at h1
      exact BlockOK.of (fun y hy => ih y (by have := nodesL_mem hy; omega) (by omega) ((inv_shBlock hb).2 y hy)) (by have := nodesL_length x.kids; omega)
    have hL : ∀ x, x ∈ ks → shCls shList x = true → ClsOK false x := fun x hx hb => by
      have h1 := hks x hx
      rw [Nd.nodes_kids] at h1
      refine ClsOK.case (fun c hc => ?_) (by have := nodesL_length x.kids; omega)
      have h2 := nodesL_mem hc
      obtain ⟨t1, h, b, rfl, hh, hb⟩ := (inv_shCls hb).2 c hc
      simp only [Nd.nodes, nodesL] at h2
      have h3 := Nd.nodes_kids h
      refine ⟨h, b, rfl, fun y hy => ?_, by have := nodesL_length h.kids; omega, fun y hy => ih y (by have := nodesL_mem hy; omega) (by omega) (hb y hy), by have := nodesL_length b; omega⟩
      rcases hh with hh | hh
      · obtain ⟨k1, t1, ks1⟩ := h
        simp [miss] at hh
        simp [hh.2] at hy
      · exact expr_ok ((inv_list hh).2 y hy) (by have := nodesL_mem hy; omega)
    have hO : ∀ x, x ∈ ks → shCls shSimple x = true → ClsOK true x := fun x hx hb => by
      have h1 := hks x hx
      rw [Nd.nodes_kids] at h1
      refine ClsOK.comm (fun c hc => ?_) (by have := nodesL_length x.kids; omega)
      have h2 := nodesL_mem hc
      obtain ⟨t1, h, b, rfl, hh, hb⟩ := (inv_shCls hb).2 c hc
      simp only [Nd.nodes, nodesL] at h2
      exact ⟨h, b, rfl, StmtO.of fun hm => simple_any (hit_or hh hm) (by omega), fun y hy => ih y (by have := nodesL_mem hy; omega) (by omega) (hb y hy), by have := nodesL_length b; omega⟩
    have hSO : ∀ x, x ∈ ks → (miss x = true ∨ shSimple x = true) → StmtO x := fun x hx h => StmtO.of fun hm => simple_any (hit_or h hm) (by have := hks x hx; omega)
    have hEO : ∀ x, x ∈ ks → (miss x = true ∨ shE x = true) → ExprO x := fun x hx h => ExprO.of fun hm => hE x hx (hit_or h hm)
    have hk := shS_kind hs
    simp only [Nd.kind_mk, stmtKinds, List.mem_cons, List.not_mem_nil, or_false] at hk
    rcases hk with h | h | h | h | h | h | h | h | h | h | h | h | h | h | h | h
    · exact simple_any (shS_simple (by simp [h]) hs) (by omega)
    · exact simple_any (shS_simple (by simp [h]) hs) (by omega)
    · exact simple_any (shS_simple (by simp [h]) hs) (by omega)
    · exact simple_any (shS_simple (by simp [h]) hs) (by omega)
    · obtain ⟨a, rfl, ha, hc⟩ := inv_go (Or.inl h) hs
      obtain rfl := ba_of h
      exact stmt_go t a (call_ok hc ha (by have := hks a (by simp); omega))
    · obtain ⟨a, rfl, ha, hc⟩ := inv_go (Or.inr h) hs
      obtain rfl := ba_of h
      exact stmt_defer t a (call_ok hc ha (by have := hks a (by simp); omega))
    · obtain rfl := ba_of h
      exact stmt_return t ks (fun k hk => hE k hk (inv_return hs k hk)) hlen
    · obtain rfl := ba_of h
      rcases inv_branch hs with rfl | ⟨a, rfl, ha, hn⟩
      · exact stmt_branch0 t
      · exact stmt_branch1 t a
    · obtain rfl := ba_of h
      obtain ⟨a, rfl, ha⟩ := inv_label hs
      exact stmt_label t a (ih a (hks a (by simp)) (by omega) ha)
    · obtain rfl := ba_of h
      exact stmt_block t ks (fun k hk => ih k (hks k hk) (by omega) (inv_block hs k hk)) hlen
    · obtain rfl := ba_of h
      obtain ⟨a, b, c, d, rfl, ha, hb, hc, hd⟩ := inv_if hs
      cases hm : miss d
      · have hsd := hit_or hd hm
        have hkd : (d.kind.toList == [110, 111, 110, 101]) = false := by
          have hq := shS_kind hsd
          rw [beq_eq_false_iff_ne]
          intro e
          rw [e] at hq
          revert hq
          decide
        exact stmt_if_else t a b c d (hSO a (by simp) ha) (hE b (by simp) hb) (hB c (by simp) hc) (ih d (hks d (by simp)) (by omega) hsd) hkd
      · exact stmt_if_none t a b c d (hSO a (by simp) ha) (hE b (by simp) hb) (hB c (by simp) hc) hm
    · obtain rfl := ba_of h
      obtain ⟨a, b, c, d, rfl, ha, hb, hc, hd⟩ := inv_for hs
      exact stmt_for t a b c d (hSO a (by simp) ha) (hEO b (by simp) hb) (hSO c (by simp) hc) (hB d (by simp) hd)
    · obtain rfl := ba_of h
      obtain ⟨a, b, c, d, rfl, hc, hd, ⟨ht, ha, hb⟩ | ⟨ht, ha, hb⟩⟩ := inv_range hs
      · obtain rfl := ba_of ht
        exact stmt_range0 a b c d (hE c (by simp) hc) (hB d (by simp) hd)
      · have hte : (t.toList == []) = false := by rw [beq_eq_false_iff_ne]; exact ht
        cases hm : miss b
        · have hsb := hit_or hb hm
          have hkb : (b.kind.toList == [110, 111, 110, 101]) = false := by
            have hq := shE_kind hsb
            rw [beq_eq_false_iff_ne]
            intro e
            rw [e] at hq
            revert hq
            decide
          exact stmt_range2 t a b c d (hE a (by simp) ha) (hE b (by simp) hsb) (hE c (by simp) hc) (hB d (by simp) hd) hte hkb
        · exact stmt_range1 t a b c d (hE a (by simp) ha) (hE c (by simp) hc) (hB d (by simp) hd) hte hm
    · obtain rfl := ba_of h
      obtain ⟨a, b, c, rfl, ha, hb, hc⟩ := inv_switch hs
      exact stmt_switch t a b c (hSO a (by simp) ha) (hEO b (by simp) hb) (hL c (by simp) hc)
    · obtain rfl := ba_of h
      obtain ⟨a, b, c, rfl, ha, hb, hc⟩ := inv_types hs
      exact stmt_types t a b c (hSO a (by simp) ha) (simple_any hb (by have := hks b (by simp); omega)) (hL c (by simp) hc)
    · obtain rfl := ba_of h
      obtain ⟨a, rfl, ha⟩ := inv_selects hs
      exact stmt_selects t a (hO a (by simp) ha)
theorem stmt_ok {x : Nd} (h : shS x = true) (hm : x.nodes ≤ 400) : StmtOK x := stmt_any 400 x hm (Nat.le_refl _) h

set_option maxRecDepth 100000 in
set_option maxHeartbeats 2000000 in
/-- build: the statement lies in new blocks, with places of its own. -/
theorem build_b (n : Nd) (h : shS n = true) (hm : n.nodes ≤ 400) (kv : Value) (w : World) (hn : NdK w.heap.size w n kv) (htok : TokTab w) (h0 : 0 < w.heap.size) (l : List Int) (sv : Value)
    (hsv : (sv = .slice none 0 0 ∧ l = []) ∨ ∃ b o cap, sv = .slice (some ⟨b, o, none⟩) l.length cap ∧ l.length ≤ cap ∧ cap ≤ maxLen ∧ b < w.heap.size ∧ CellsAt w b o (l.map intV)) :
    Calls Tryz.prog 26 #[nodeV n kv, sv] w fun e w' => ∃ v, e = .returned v ∧ At (In w.heap.size w'.heap.size) w' (bS n l).1 v ∧ Bel w w' := by
  have HS := hide (stmt_ok h hm)
  clear h
  obtain ⟨a, cap, hv, -, -⟩ := hn.slice
  subst hv
  obtain ⟨sa, sn, sc, hsl⟩ : ∃ a n c, sv = .slice a n c := by rcases hsv with ⟨rfl, -⟩ | ⟨b, o, c, rfl, -⟩ <;> exact ⟨_, _, _, rfl⟩
  have HSV := hide hsv
  clear hsv
  subst hsl
  unfold nodeV
  go_enter Tryz.func26, Tryz.ntmps26
  go_wp2_with fail
  have hb : Bel w ((w.alloc (.cells #[.string n.kind, .string n.text, .slice a n.kids.length cap] 24)).alloc (.cells #[.slice sa sn sc] 257)) := (by repeat (first | exact Bel.refl _ | assumption | refine Bel.alloc ?_ _ | refine Bel.drew ?_ | refine Bel.set ?_ (by first | exact Nat.le_refl _ | (simp; done) | (simp; omega)) _))
  have hs : Bst w.heap.size (w.heap.size + 1) (w.heap.size + 2) l ((w.alloc (.cells #[.string n.kind, .string n.text, .slice a n.kids.length cap] 24)).alloc (.cells #[.slice sa sn sc] 257)) := by
    refine ⟨h0, by omega, by omega, by simp, fun t ht => (hb.cell 0 t h0).trans (htok t ht), ⟨.slice sa sn sc, ?_, HSV.out.imp id ?_⟩, ?_⟩
    · rw [World.cell?_alloc_at _ _ _ _ (by simp)]; rfl
    · rintro ⟨b, o, c, e, l1, l2, hlt, hr⟩
      exact ⟨b, o, c, e, l1, l2, by omega, by omega, hr.later hb⟩
    · rw [World.frozen?_alloc_at _ _ _ _ (by simp)]
  refine (HS.out _ _ w.heap.size (w.heap.size + 1) (w.heap.size + 2) l (hn.stay (Nat.le_refl _) (hb.same (Nat.le_refl _))) hs).mono ?_
  rintro e w1 ⟨v, rfl, ha, hs1, hb1⟩
  obtain ⟨p, rfl, hp⟩ := ha.ptr
  go_wp2_with fail
  go_ret
  exact ⟨_, rfl, ha.stay (fun k hk => ⟨by have := hk.1; simp at this; omega, hk.2⟩) (Mid.refl _ _), hb1.bel hb (by omega)⟩
end Go.Proofs.YtkkgfgllfbahlaaGreatFmt

namespace Go.Proofs.YtkkgfgllfbahlaaGreatFmt
open Go Go.RowKit

noncomputable def ptrT (s : Nat) : Bool := match Tryz.prog.underlying s with | some (.pointer _) => true | _ => false
/-- A pointer type, its zero nil. -/
def PtrT (s : Nat) : Prop := ptrT s = true ∧ ∀ W, Sem.run Tryz.prog (zeroValue s) W = .ok (.pointer none) W
theorem ptrT_un {s : Nat} (h : ptrT s = true) : ∃ e, Tryz.prog.underlying s = some (.pointer e) := by
  unfold ptrT at h
  split at h
  · rename_i e he; exact ⟨e, he⟩
  · simp at h
theorem ta_hit {s : Nat} (h : PtrT s) (X : Nat) (v : Value) (W : World) : Sem.run Tryz.prog (Instr.typeAssert (.iface s v) X s true) W = .ok (.tuple #[v, .bool true]) W := by
  obtain ⟨e, he⟩ := ptrT_un h.1
  simp [Instr.typeAssert, underlying, he, go_sem]
theorem ta_miss {s : Nat} (h : PtrT s) (P X : Nat) (hne : (P == s) = false) (v : Value) (W : World) : Sem.run Tryz.prog (Instr.typeAssert (.iface P v) X s true) W = .ok (.tuple #[.pointer none, .bool false]) W := by
  obtain ⟨e, he⟩ := ptrT_un h.1
  have hne : ¬ P = s := by simpa using hne
  have hz := h.2
  simp [Instr.typeAssert, underlying, he, go_sem, hne, hz]
theorem ptr_Comment : PtrT 71 := ⟨by kernel_rfl, fun W => by kernel_rfl⟩
theorem ptr_CommentGroup : PtrT 72 := ⟨by kernel_rfl, fun W => by kernel_rfl⟩
theorem ptr_Field : PtrT 77 := ⟨by kernel_rfl, fun W => by kernel_rfl⟩
theorem ptr_FieldList : PtrT 86 := ⟨by kernel_rfl, fun W => by kernel_rfl⟩
theorem ptr_BadExpr : PtrT 92 := ⟨by kernel_rfl, fun W => by kernel_rfl⟩
theorem ptr_Ident : PtrT 85 := ⟨by kernel_rfl, fun W => by kernel_rfl⟩
theorem ptr_BasicLit : PtrT 81 := ⟨by kernel_rfl, fun W => by kernel_rfl⟩
theorem ptr_Ellipsis : PtrT 93 := ⟨by kernel_rfl, fun W => by kernel_rfl⟩
theorem ptr_FuncLit : PtrT 96 := ⟨by kernel_rfl, fun W => by kernel_rfl⟩
theorem ptr_CompositeLit : PtrT 101 := ⟨by kernel_rfl, fun W => by kernel_rfl⟩
theorem ptr_ParenExpr : PtrT 106 := ⟨by kernel_rfl, fun W => by kernel_rfl⟩
theorem ptr_SelectorExpr : PtrT 109 := ⟨by kernel_rfl, fun W => by kernel_rfl⟩
theorem ptr_IndexExpr : PtrT 112 := ⟨by kernel_rfl, fun W => by kernel_rfl⟩
theorem ptr_IndexListExpr : PtrT 115 := ⟨by kernel_rfl, fun W => by kernel_rfl⟩
theorem ptr_SliceExpr : PtrT 118 := ⟨by kernel_rfl, fun W => by kernel_rfl⟩
theorem ptr_TypeAssertExpr : PtrT 121 := ⟨by kernel_rfl, fun W => by kernel_rfl⟩
theorem ptr_CallExpr : PtrT 124 := ⟨by kernel_rfl, fun W => by kernel_rfl⟩
theorem ptr_StarExpr : PtrT 127 := ⟨by kernel_rfl, fun W => by kernel_rfl⟩
theorem ptr_UnaryExpr : PtrT 130 := ⟨by kernel_rfl, fun W => by kernel_rfl⟩
theorem ptr_BinaryExpr : PtrT 134 := ⟨by kernel_rfl, fun W => by kernel_rfl⟩
theorem ptr_KeyValueExpr : PtrT 137 := ⟨by kernel_rfl, fun W => by kernel_rfl⟩
theorem ptr_ArrayType : PtrT 140 := ⟨by kernel_rfl, fun W => by kernel_rfl⟩
theorem ptr_StructType : PtrT 143 := ⟨by kernel_rfl, fun W => by kernel_rfl⟩
theorem ptr_FuncType : PtrT 97 := ⟨by kernel_rfl, fun W => by kernel_rfl⟩
theorem ptr_InterfaceType : PtrT 148 := ⟨by kernel_rfl, fun W => by kernel_rfl⟩
theorem ptr_MapType : PtrT 151 := ⟨by kernel_rfl, fun W => by kernel_rfl⟩
theorem ptr_ChanType : PtrT 154 := ⟨by kernel_rfl, fun W => by kernel_rfl⟩
theorem ptr_BadStmt : PtrT 158 := ⟨by kernel_rfl, fun W => by kernel_rfl⟩
theorem ptr_DeclStmt : PtrT 159 := ⟨by kernel_rfl, fun W => by kernel_rfl⟩
theorem ptr_EmptyStmt : PtrT 164 := ⟨by kernel_rfl, fun W => by kernel_rfl⟩
theorem ptr_LabeledStmt : PtrT 165 := ⟨by kernel_rfl, fun W => by kernel_rfl⟩
theorem ptr_ExprStmt : PtrT 168 := ⟨by kernel_rfl, fun W => by kernel_rfl⟩
theorem ptr_SendStmt : PtrT 171 := ⟨by kernel_rfl, fun W => by kernel_rfl⟩
theorem ptr_IncDecStmt : PtrT 174 := ⟨by kernel_rfl, fun W => by kernel_rfl⟩
theorem ptr_AssignStmt : PtrT 177 := ⟨by kernel_rfl, fun W => by kernel_rfl⟩
theorem ptr_GoStmt : PtrT 180 := ⟨by kernel_rfl, fun W => by kernel_rfl⟩
theorem ptr_DeferStmt : PtrT 183 := ⟨by kernel_rfl, fun W => by kernel_rfl⟩
theorem ptr_ReturnStmt : PtrT 186 := ⟨by kernel_rfl, fun W => by kernel_rfl⟩
theorem ptr_BranchStmt : PtrT 189 := ⟨by kernel_rfl, fun W => by kernel_rfl⟩
theorem ptr_BlockStmt : PtrT 98 := ⟨by kernel_rfl, fun W => by kernel_rfl⟩
theorem ptr_IfStmt : PtrT 196 := ⟨by kernel_rfl, fun W => by kernel_rfl⟩
theorem ptr_CaseClause : PtrT 199 := ⟨by kernel_rfl, fun W => by kernel_rfl⟩
theorem ptr_SwitchStmt : PtrT 202 := ⟨by kernel_rfl, fun W => by kernel_rfl⟩
theorem ptr_TypeSwitchStmt : PtrT 205 := ⟨by kernel_rfl, fun W => by kernel_rfl⟩
theorem ptr_CommClause : PtrT 208 := ⟨by kernel_rfl, fun W => by kernel_rfl⟩
theorem ptr_SelectStmt : PtrT 211 := ⟨by kernel_rfl, fun W => by kernel_rfl⟩
theorem ptr_ForStmt : PtrT 214 := ⟨by kernel_rfl, fun W => by kernel_rfl⟩
theorem ptr_RangeStmt : PtrT 217 := ⟨by kernel_rfl, fun W => by kernel_rfl⟩
end Go.Proofs.YtkkgfgllfbahlaaGreatFmt

namespace Go.Proofs.YtkkgfgllfbahlaaGreatFmt
open Go Go.RowKit
set_option linter.unusedSimpArgs false

theorem Bel.at {w w1 : World} (h : Bel w w1) {b : Nat} (hb : b < w.heap.size) : ∀ j, w1.cell? ⟨b, j, none⟩ = w.cell? ⟨b, j, none⟩ := fun j => h.cell b j hb
theorem Bel.atf {w w1 : World} (h : Bel w w1) {b : Nat} (hb : b < w.heap.size) : ∀ j, w1.frozen? ⟨b, j, none⟩ = w.frozen? ⟨b, j, none⟩ := fun j => h.frozen b j hb
theorem Bel.facts {w w1 : World} (h : Bel w w1) {b : Nat} (hb : b < w.heap.size) : (∀ j, w1.cell? ⟨b, j, none⟩ = w.cell? ⟨b, j, none⟩) ∧ (∀ j, w1.frozen? ⟨b, j, none⟩ = w.frozen? ⟨b, j, none⟩) ∧ b < w1.heap.size ∧ ¬ b = w1.heap.size ∧ ¬ w1.heap.size = b :=
  have := h.le
  ⟨h.at hb, h.atf hb, by omega, by omega, by omega⟩
theorem TokTab.bel {w w1 : World} (h : TokTab w) (h0 : 0 < w.heap.size) (hb : Bel w w1) : TokTab w1 := fun t ht => (hb.cell 0 t h0).trans (h t ht)
theorem Bel.mid {w w1 : World} (h : Bel w w1) {S : Nat → Prop} (hS : ∀ k, S k → k < w.heap.size) : Mid S w w1 := fun k hk => h.block k (hS k hk)

def CvPost (k : ByteArray) (w : World) (e : Ending) (w' : World) : Prop := ∃ t b n c, e = .returned (.agg #[.string k, .string t, .slice b n c]) ∧ Bel w w'
/-- expr, stmt, block, exprs answer on this value from w on. -/
abbrev FE (v : Value) (k : ByteArray) (w : World) : Prop := ∀ W, Bel w W → Calls Tryz.prog 54 #[v] W (CvPost k W)
abbrev FS (v : Value) (k : ByteArray) (w : World) : Prop := ∀ W, Bel w W → Calls Tryz.prog 53 #[v] W (CvPost k W)
def CvE (a : Ast) : Prop := ∀ (S : Nat → Prop) (v : Value) (w : World), At S w a v → (∀ k, S k → k < w.heap.size) → TokTab w → 0 < w.heap.size → Calls Tryz.prog 54 #[v] w (CvPost a.kind w)
def CvS (a : Ast) : Prop := ∀ (S : Nat → Prop) (v : Value) (w : World), At S w a v → (∀ k, S k → k < w.heap.size) → TokTab w → 0 < w.heap.size → Calls Tryz.prog 53 #[v] w (CvPost a.kind w)
theorem CvE.at {a : Ast} (h : CvE a) {S : Nat → Prop} {v : Value} {w : World} (ha : At S w a v) (hS : ∀ k, S k → k < w.heap.size) (hk : TokTab w) (h0 : 0 < w.heap.size) : FE v a.kind w := fun W hb =>
  h S v W (ha.stay (fun _ h => h) (hb.mid hS)) (fun k hk => Nat.lt_of_lt_of_le (hS k hk) hb.le) (hk.bel h0 hb) (Nat.lt_of_lt_of_le h0 hb.le)
theorem CvS.at {a : Ast} (h : CvS a) {S : Nat → Prop} {v : Value} {w : World} (ha : At S w a v) (hS : ∀ k, S k → k < w.heap.size) (hk : TokTab w) (h0 : 0 < w.heap.size) : FS v a.kind w := fun W hb =>
  h S v W (ha.stay (fun _ h => h) (hb.mid hS)) (fun k hk => Nat.lt_of_lt_of_le (hS k hk) hb.le) (hk.bel h0 hb) (Nat.lt_of_lt_of_le h0 hb.le)
theorem tok_at {t : Int} (ht : tokR t = true) {w : World} (hk : TokTab w) (h0 : 0 < w.heap.size) : ∀ W, Bel w W → Calls Tryz.prog 79 #[.int .i64 t] W fun e w' => ∃ s, e = .returned (.string s) ∧ W = w' := by
  intro W hb
  simp only [tokR, Bool.and_eq_true, decide_eq_true_eq] at ht
  obtain ⟨n, rfl⟩ := Int.eq_ofNat_of_zero_le ht.1
  exact (tok_any W n (by omega) (hk.bel h0 hb)).mono fun e w' h => ⟨_, h.1, h.2⟩

theorem kids_any (b : Option Addr) (n c : Nat) (w : World) : Calls Tryz.prog 78 #[.slice b n c] w fun e w' => ∃ b', e = .returned (.slice b' n c) ∧ w = w' := by
  go_enter Tryz.func78, Tryz.ntmps78
  go_wp2_with fail
  go_ret
  exact ⟨_, rfl, rfl⟩
theorem none_any (w : World) : Calls Tryz.prog 77 #[] w (CvPost ⟨#[110, 111, 110, 101]⟩ w) := by
  go_enter Tryz.func77, Tryz.ntmps77
  go_wp2_with fail
  refine bodyPost_ret (v := .agg #[.string ⟨#[110, 111, 110, 101]⟩, .string ⟨#[]⟩, .slice none 0 0]) (by simp [results, Tryz.results77, go_sem]) rfl ⟨_, _, _, _, rfl, (by repeat (first | exact Bel.refl _ | assumption | refine Bel.alloc ?_ _ | refine Bel.drew ?_ | refine Bel.set ?_ (by first | exact Nat.le_refl _ | (simp; done) | (simp; omega)) _))⟩
end Go.Proofs.YtkkgfgllfbahlaaGreatFmt
