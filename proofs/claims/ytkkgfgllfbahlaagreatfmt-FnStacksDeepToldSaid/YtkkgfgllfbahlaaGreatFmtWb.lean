/- ast.Walk at some kinds of nodes (printed by gen_wg.py). -/
import Derived.Test.YtkkgfgllfbahlaaGreatFmtWl
set_option linter.unusedVariables false
set_option linter.unusedSimpArgs false
namespace Go.Proofs.YtkkgfgllfbahlaaGreatFmt
open Go Go.RowKit
set_option linter.unusedSimpArgs false

set_option maxRecDepth 100000 in
set_option maxHeartbeats 16000000 in
theorem wk_exprS {V : Vis} {D : Nat → Prop} {w0 : World} {ty fv : Nat} {xv : V.T → Value} {ok : Nat → V.T → Prop} {R : V.T → Nat → V.S → World → Prop} (G : GoodG V D w0 ty fv xv ok R) (x' : Ast) (hg : (Ast.exprS x').good = true) (hK : ∀ k, k ∈ (Ast.exprS x').kids → ∀ v, At D w0 k v → WKG V ty xv ok R k.xt v) {v : Value} (ha : At D w0 (Ast.exprS x') v) : WKG V ty xv ok R (Ast.exprS x').xt v := by
  intro b t s w hok hR
  have hL : (Ast.exprS x').xt = .mk ⟨#[101, 120, 112, 114, 101, 115, 115, 105, 111, 110]⟩ ([x'.xt]) := by simp [Ast.xt]
  have e0 : b + 2 * (Ast.exprS x').xt.size = b + 1 + 2 * (x'.xt.size) + 1 := by rw [hL, XT.size]; (try simp only [sizeXs_append, sizeXs]) <;> omega
  rw [e0] at hok hR
  have HV := G.vis _ t s w _ _ hok hR ha hg
  obtain ⟨ad, rfl, had, vx', c0, ax'⟩ := At_exprS.1 ha
  have HL := hide hL
  have HKA := hide hK
  have HG := hide G
  have hcf := G.enters
  have hm0 := fun n W => G.meth n t W
  have hm1 := fun n t W => G.meth n t W
  clear hR hok hK ha hL e0 G
  have taComment := ta_miss ptr_Comment 168 54 rfl
  have taCommentGroup := ta_miss ptr_CommentGroup 168 54 rfl
  have taField := ta_miss ptr_Field 168 54 rfl
  have taFieldList := ta_miss ptr_FieldList 168 54 rfl
  have taBadExpr := ta_miss ptr_BadExpr 168 54 rfl
  have taIdent := ta_miss ptr_Ident 168 54 rfl
  have taBasicLit := ta_miss ptr_BasicLit 168 54 rfl
  have taEllipsis := ta_miss ptr_Ellipsis 168 54 rfl
  have taFuncLit := ta_miss ptr_FuncLit 168 54 rfl
  have taCompositeLit := ta_miss ptr_CompositeLit 168 54 rfl
  have taParenExpr := ta_miss ptr_ParenExpr 168 54 rfl
  have taSelectorExpr := ta_miss ptr_SelectorExpr 168 54 rfl
  have taIndexExpr := ta_miss ptr_IndexExpr 168 54 rfl
  have taIndexListExpr := ta_miss ptr_IndexListExpr 168 54 rfl
  have taSliceExpr := ta_miss ptr_SliceExpr 168 54 rfl
  have taTypeAssertExpr := ta_miss ptr_TypeAssertExpr 168 54 rfl
  have taCallExpr := ta_miss ptr_CallExpr 168 54 rfl
  have taStarExpr := ta_miss ptr_StarExpr 168 54 rfl
  have taUnaryExpr := ta_miss ptr_UnaryExpr 168 54 rfl
  have taBinaryExpr := ta_miss ptr_BinaryExpr 168 54 rfl
  have taKeyValueExpr := ta_miss ptr_KeyValueExpr 168 54 rfl
  have taArrayType := ta_miss ptr_ArrayType 168 54 rfl
  have taStructType := ta_miss ptr_StructType 168 54 rfl
  have taFuncType := ta_miss ptr_FuncType 168 54 rfl
  have taInterfaceType := ta_miss ptr_InterfaceType 168 54 rfl
  have taMapType := ta_miss ptr_MapType 168 54 rfl
  have taChanType := ta_miss ptr_ChanType 168 54 rfl
  have taBadStmt := ta_miss ptr_BadStmt 168 54 rfl
  have taDeclStmt := ta_miss ptr_DeclStmt 168 54 rfl
  have taEmptyStmt := ta_miss ptr_EmptyStmt 168 54 rfl
  have taLabeledStmt := ta_miss ptr_LabeledStmt 168 54 rfl
  have taH := ta_hit ptr_ExprStmt 54
  rcases hst : V.step t (some (Ast.exprS x').kind) s with ⟨_ | t1, s1⟩
  · rw [hst] at HV
    have HV := hide HV
    go_enter Tryz.func25, Tryz.ntmps25
    go_wp2_with fail
    with_reducible refine Calls.mono HV.out ?_
    rintro e w1 ⟨rfl, hR1⟩
    go_wp2_with fail
    go_returns
    refine ⟨_, rfl, ?_⟩
    rw [HL.out]
    unfold walkX
    rw [show V.step t (some ⟨#[101, 120, 112, 114, 101, 115, 115, 105, 111, 110]⟩) s = (none, s1) from hst]
    exact HG.out.monoN hR1 (by omega)
  · rw [hst] at HV
    have HV := hide HV
    have hm2 := fun n W => hm1 n t1 W
    clear hm1
    go_enter Tryz.func25, Tryz.ntmps25
    go_wp2_with fail
    with_reducible refine Calls.mono HV.out ?_
    rintro e w1 ⟨rfl, hok1, hR1⟩
    have d1 : ∀ j, w1.cell? ⟨ad, j, none⟩ = w0.cell? ⟨ad, j, none⟩ := fun j => (HG.out.mid _ _ _ _ hR1).cell had
    have Kxq := hide (HKA.out x' (by simp [Ast.kids]) _ ax')
    clear ax'
    go_wp2_with fail
    with_reducible refine Calls.mono (Kxq.out (b + 1 + 2 * (0)) t1 _ w1 (HG.out.okN hok1 (by omega)) (castR hR1 (by omega))) ?_
    rintro e w2 ⟨r2, rfl, hR2⟩
    have d2 : ∀ j, w2.cell? ⟨ad, j, none⟩ = w0.cell? ⟨ad, j, none⟩ := fun j => (HG.out.mid _ _ _ _ hR2).cell had
    go_wp2_with fail
    with_reducible refine Calls.mono (HG.out.nil b t1 t _ _ _ w2 (congrArg Prod.fst hst) (HG.out.okN hok1 (by omega)) (castR hR2 (by omega))) ?_
    rintro e wz ⟨rz, rfl, hRz⟩
    go_wp2_with fail
    go_returns
    refine ⟨_, rfl, ?_⟩
    rw [HL.out]
    unfold walkX
    rw [show V.step t (some ⟨#[101, 120, 112, 114, 101, 115, 115, 105, 111, 110]⟩) s = (some t1, s1) from hst]
    simpa only [xtO, List.nil_append, walkXs_append, walkXs] using hRz

set_option maxRecDepth 100000 in
set_option maxHeartbeats 16000000 in
theorem wk_send {V : Vis} {D : Nat → Prop} {w0 : World} {ty fv : Nat} {xv : V.T → Value} {ok : Nat → V.T → Prop} {R : V.T → Nat → V.S → World → Prop} (G : GoodG V D w0 ty fv xv ok R) (x' : Ast) (p' : Int) (y' : Ast) (hg : (Ast.send x' p' y').good = true) (hK : ∀ k, k ∈ (Ast.send x' p' y').kids → ∀ v, At D w0 k v → WKG V ty xv ok R k.xt v) {v : Value} (ha : At D w0 (Ast.send x' p' y') v) : WKG V ty xv ok R (Ast.send x' p' y').xt v := by
  intro b t s w hok hR
  have hL : (Ast.send x' p' y').xt = .mk ⟨#[115, 101, 110, 100]⟩ ([x'.xt] ++ [y'.xt]) := by simp [Ast.xt]
  have e0 : b + 2 * (Ast.send x' p' y').xt.size = b + 1 + 2 * (x'.xt.size + y'.xt.size) + 1 := by rw [hL, XT.size]; (try simp only [sizeXs_append, sizeXs]) <;> omega
  rw [e0] at hok hR
  have HV := G.vis _ t s w _ _ hok hR ha hg
  obtain ⟨ad, rfl, had, vx', vy', c0, ax', c1, c2, ay'⟩ := At_send.1 ha
  have HL := hide hL
  have HKA := hide hK
  have HG := hide G
  have hcf := G.enters
  have hm0 := fun n W => G.meth n t W
  have hm1 := fun n t W => G.meth n t W
  clear hR hok hK ha hL e0 G
  have taComment := ta_miss ptr_Comment 171 54 rfl
  have taCommentGroup := ta_miss ptr_CommentGroup 171 54 rfl
  have taField := ta_miss ptr_Field 171 54 rfl
  have taFieldList := ta_miss ptr_FieldList 171 54 rfl
  have taBadExpr := ta_miss ptr_BadExpr 171 54 rfl
  have taIdent := ta_miss ptr_Ident 171 54 rfl
  have taBasicLit := ta_miss ptr_BasicLit 171 54 rfl
  have taEllipsis := ta_miss ptr_Ellipsis 171 54 rfl
  have taFuncLit := ta_miss ptr_FuncLit 171 54 rfl
  have taCompositeLit := ta_miss ptr_CompositeLit 171 54 rfl
  have taParenExpr := ta_miss ptr_ParenExpr 171 54 rfl
  have taSelectorExpr := ta_miss ptr_SelectorExpr 171 54 rfl
  have taIndexExpr := ta_miss ptr_IndexExpr 171 54 rfl
  have taIndexListExpr := ta_miss ptr_IndexListExpr 171 54 rfl
  have taSliceExpr := ta_miss ptr_SliceExpr 171 54 rfl
  have taTypeAssertExpr := ta_miss ptr_TypeAssertExpr 171 54 rfl
  have taCallExpr := ta_miss ptr_CallExpr 171 54 rfl
  have taStarExpr := ta_miss ptr_StarExpr 171 54 rfl
  have taUnaryExpr := ta_miss ptr_UnaryExpr 171 54 rfl
  have taBinaryExpr := ta_miss ptr_BinaryExpr 171 54 rfl
  have taKeyValueExpr := ta_miss ptr_KeyValueExpr 171 54 rfl
  have taArrayType := ta_miss ptr_ArrayType 171 54 rfl
  have taStructType := ta_miss ptr_StructType 171 54 rfl
  have taFuncType := ta_miss ptr_FuncType 171 54 rfl
  have taInterfaceType := ta_miss ptr_InterfaceType 171 54 rfl
  have taMapType := ta_miss ptr_MapType 171 54 rfl
  have taChanType := ta_miss ptr_ChanType 171 54 rfl
  have taBadStmt := ta_miss ptr_BadStmt 171 54 rfl
  have taDeclStmt := ta_miss ptr_DeclStmt 171 54 rfl
  have taEmptyStmt := ta_miss ptr_EmptyStmt 171 54 rfl
  have taLabeledStmt := ta_miss ptr_LabeledStmt 171 54 rfl
  have taExprStmt := ta_miss ptr_ExprStmt 171 54 rfl
  have taH := ta_hit ptr_SendStmt 54
  rcases hst : V.step t (some (Ast.send x' p' y').kind) s with ⟨_ | t1, s1⟩
  · rw [hst] at HV
    have HV := hide HV
    go_enter Tryz.func25, Tryz.ntmps25
    go_wp2_with fail
    with_reducible refine Calls.mono HV.out ?_
    rintro e w1 ⟨rfl, hR1⟩
    go_wp2_with fail
    go_returns
    refine ⟨_, rfl, ?_⟩
    rw [HL.out]
    unfold walkX
    rw [show V.step t (some ⟨#[115, 101, 110, 100]⟩) s = (none, s1) from hst]
    exact HG.out.monoN hR1 (by omega)
  · rw [hst] at HV
    have HV := hide HV
    have hm2 := fun n W => hm1 n t1 W
    clear hm1
    go_enter Tryz.func25, Tryz.ntmps25
    go_wp2_with fail
    with_reducible refine Calls.mono HV.out ?_
    rintro e w1 ⟨rfl, hok1, hR1⟩
    have d1 : ∀ j, w1.cell? ⟨ad, j, none⟩ = w0.cell? ⟨ad, j, none⟩ := fun j => (HG.out.mid _ _ _ _ hR1).cell had
    have Kxq := hide (HKA.out x' (by simp [Ast.kids]) _ ax')
    clear ax'
    go_wp2_with fail
    with_reducible refine Calls.mono (Kxq.out (b + 1 + 2 * (y'.xt.size)) t1 _ w1 (HG.out.okN hok1 (by omega)) (castR hR1 (by omega))) ?_
    rintro e w2 ⟨r2, rfl, hR2⟩
    have d2 : ∀ j, w2.cell? ⟨ad, j, none⟩ = w0.cell? ⟨ad, j, none⟩ := fun j => (HG.out.mid _ _ _ _ hR2).cell had
    have Kyq := hide (HKA.out y' (by simp [Ast.kids]) _ ay')
    clear ay'
    go_wp2_with fail
    with_reducible refine Calls.mono (Kyq.out (b + 1 + 2 * (0)) t1 _ w2 (HG.out.okN hok1 (by omega)) (castR hR2 (by omega))) ?_
    rintro e w3 ⟨r3, rfl, hR3⟩
    have d3 : ∀ j, w3.cell? ⟨ad, j, none⟩ = w0.cell? ⟨ad, j, none⟩ := fun j => (HG.out.mid _ _ _ _ hR3).cell had
    go_wp2_with fail
    with_reducible refine Calls.mono (HG.out.nil b t1 t _ _ _ w3 (congrArg Prod.fst hst) (HG.out.okN hok1 (by omega)) (castR hR3 (by omega))) ?_
    rintro e wz ⟨rz, rfl, hRz⟩
    go_wp2_with fail
    go_returns
    refine ⟨_, rfl, ?_⟩
    rw [HL.out]
    unfold walkX
    rw [show V.step t (some ⟨#[115, 101, 110, 100]⟩) s = (some t1, s1) from hst]
    simpa only [xtO, List.nil_append, walkXs_append, walkXs] using hRz

set_option maxRecDepth 100000 in
set_option maxHeartbeats 16000000 in
theorem wk_step {V : Vis} {D : Nat → Prop} {w0 : World} {ty fv : Nat} {xv : V.T → Value} {ok : Nat → V.T → Prop} {R : V.T → Nat → V.S → World → Prop} (G : GoodG V D w0 ty fv xv ok R) (x' : Ast) (p' : Int) (t' : Int) (hg : (Ast.step x' p' t').good = true) (hK : ∀ k, k ∈ (Ast.step x' p' t').kids → ∀ v, At D w0 k v → WKG V ty xv ok R k.xt v) {v : Value} (ha : At D w0 (Ast.step x' p' t') v) : WKG V ty xv ok R (Ast.step x' p' t').xt v := by
  intro b t s w hok hR
  have hL : (Ast.step x' p' t').xt = .mk ⟨#[115, 116, 101, 112]⟩ ([x'.xt]) := by simp [Ast.xt]
  have e0 : b + 2 * (Ast.step x' p' t').xt.size = b + 1 + 2 * (x'.xt.size) + 1 := by rw [hL, XT.size]; (try simp only [sizeXs_append, sizeXs]) <;> omega
  rw [e0] at hok hR
  have HV := G.vis _ t s w _ _ hok hR ha hg
  obtain ⟨ad, rfl, had, vx', c0, ax', c1, c2⟩ := At_step.1 ha
  have HL := hide hL
  have HKA := hide hK
  have HG := hide G
  have hcf := G.enters
  have hm0 := fun n W => G.meth n t W
  have hm1 := fun n t W => G.meth n t W
  clear hR hok hK ha hL e0 G
  have taComment := ta_miss ptr_Comment 174 54 rfl
  have taCommentGroup := ta_miss ptr_CommentGroup 174 54 rfl
  have taField := ta_miss ptr_Field 174 54 rfl
  have taFieldList := ta_miss ptr_FieldList 174 54 rfl
  have taBadExpr := ta_miss ptr_BadExpr 174 54 rfl
  have taIdent := ta_miss ptr_Ident 174 54 rfl
  have taBasicLit := ta_miss ptr_BasicLit 174 54 rfl
  have taEllipsis := ta_miss ptr_Ellipsis 174 54 rfl
  have taFuncLit := ta_miss ptr_FuncLit 174 54 rfl
  have taCompositeLit := ta_miss ptr_CompositeLit 174 54 rfl
  have taParenExpr := ta_miss ptr_ParenExpr 174 54 rfl
  have taSelectorExpr := ta_miss ptr_SelectorExpr 174 54 rfl
  have taIndexExpr := ta_miss ptr_IndexExpr 174 54 rfl
  have taIndexListExpr := ta_miss ptr_IndexListExpr 174 54 rfl
  have taSliceExpr := ta_miss ptr_SliceExpr 174 54 rfl
  have taTypeAssertExpr := ta_miss ptr_TypeAssertExpr 174 54 rfl
  have taCallExpr := ta_miss ptr_CallExpr 174 54 rfl
  have taStarExpr := ta_miss ptr_StarExpr 174 54 rfl
  have taUnaryExpr := ta_miss ptr_UnaryExpr 174 54 rfl
  have taBinaryExpr := ta_miss ptr_BinaryExpr 174 54 rfl
  have taKeyValueExpr := ta_miss ptr_KeyValueExpr 174 54 rfl
  have taArrayType := ta_miss ptr_ArrayType 174 54 rfl
  have taStructType := ta_miss ptr_StructType 174 54 rfl
  have taFuncType := ta_miss ptr_FuncType 174 54 rfl
  have taInterfaceType := ta_miss ptr_InterfaceType 174 54 rfl
  have taMapType := ta_miss ptr_MapType 174 54 rfl
  have taChanType := ta_miss ptr_ChanType 174 54 rfl
  have taBadStmt := ta_miss ptr_BadStmt 174 54 rfl
  have taDeclStmt := ta_miss ptr_DeclStmt 174 54 rfl
  have taEmptyStmt := ta_miss ptr_EmptyStmt 174 54 rfl
  have taLabeledStmt := ta_miss ptr_LabeledStmt 174 54 rfl
  have taExprStmt := ta_miss ptr_ExprStmt 174 54 rfl
  have taSendStmt := ta_miss ptr_SendStmt 174 54 rfl
  have taH := ta_hit ptr_IncDecStmt 54
  rcases hst : V.step t (some (Ast.step x' p' t').kind) s with ⟨_ | t1, s1⟩
  · rw [hst] at HV
    have HV := hide HV
    go_enter Tryz.func25, Tryz.ntmps25
    go_wp2_with fail
    with_reducible refine Calls.mono HV.out ?_
    rintro e w1 ⟨rfl, hR1⟩
    go_wp2_with fail
    go_returns
    refine ⟨_, rfl, ?_⟩
    rw [HL.out]
    unfold walkX
    rw [show V.step t (some ⟨#[115, 116, 101, 112]⟩) s = (none, s1) from hst]
    exact HG.out.monoN hR1 (by omega)
  · rw [hst] at HV
    have HV := hide HV
    have hm2 := fun n W => hm1 n t1 W
    clear hm1
    go_enter Tryz.func25, Tryz.ntmps25
    go_wp2_with fail
    with_reducible refine Calls.mono HV.out ?_
    rintro e w1 ⟨rfl, hok1, hR1⟩
    have d1 : ∀ j, w1.cell? ⟨ad, j, none⟩ = w0.cell? ⟨ad, j, none⟩ := fun j => (HG.out.mid _ _ _ _ hR1).cell had
    have Kxq := hide (HKA.out x' (by simp [Ast.kids]) _ ax')
    clear ax'
    go_wp2_with fail
    with_reducible refine Calls.mono (Kxq.out (b + 1 + 2 * (0)) t1 _ w1 (HG.out.okN hok1 (by omega)) (castR hR1 (by omega))) ?_
    rintro e w2 ⟨r2, rfl, hR2⟩
    have d2 : ∀ j, w2.cell? ⟨ad, j, none⟩ = w0.cell? ⟨ad, j, none⟩ := fun j => (HG.out.mid _ _ _ _ hR2).cell had
    go_wp2_with fail
    with_reducible refine Calls.mono (HG.out.nil b t1 t _ _ _ w2 (congrArg Prod.fst hst) (HG.out.okN hok1 (by omega)) (castR hR2 (by omega))) ?_
    rintro e wz ⟨rz, rfl, hRz⟩
    go_wp2_with fail
    go_returns
    refine ⟨_, rfl, ?_⟩
    rw [HL.out]
    unfold walkX
    rw [show V.step t (some ⟨#[115, 116, 101, 112]⟩) s = (some t1, s1) from hst]
    simpa only [xtO, List.nil_append, walkXs_append, walkXs] using hRz

set_option maxRecDepth 100000 in
set_option maxHeartbeats 16000000 in
theorem wk_assign {V : Vis} {D : Nat → Prop} {w0 : World} {ty fv : Nat} {xv : V.T → Value} {ok : Nat → V.T → Prop} {R : V.T → Nat → V.S → World → Prop} (G : GoodG V D w0 ty fv xv ok R) (a' : List Ast) (p' : Int) (t' : Int) (b' : List Ast) (hg : (Ast.assign a' p' t' b').good = true) (hK : ∀ k, k ∈ (Ast.assign a' p' t' b').kids → ∀ v, At D w0 k v → WKG V ty xv ok R k.xt v) {v : Value} (ha : At D w0 (Ast.assign a' p' t' b') v) : WKG V ty xv ok R (Ast.assign a' p' t' b').xt v := by
  intro b t s w hok hR
  have hL : (Ast.assign a' p' t' b').xt = .mk ⟨#[97, 115, 115, 105, 103, 110]⟩ (xtL a' ++ xtL b') := by simp [Ast.xt]
  have e0 : b + 2 * (Ast.assign a' p' t' b').xt.size = b + 1 + 2 * (sizeXs (xtL a') + sizeXs (xtL b')) + 1 := by rw [hL, XT.size]; (try simp only [sizeXs_append, sizeXs]) <;> omega
  rw [e0] at hok hR
  have HV := G.vis _ t s w _ _ hok hR ha hg
  obtain ⟨ad, rfl, had, va', vb', c0, aa', c1, c2, c3, ab'⟩ := At_assign.1 ha
  have HL := hide hL
  have HKA := hide hK
  have HG := hide G
  have hcf := G.enters
  have hm0 := fun n W => G.meth n t W
  have hm1 := fun n t W => G.meth n t W
  have HAaq := hide aa'
  have HAbq := hide ab'
  clear hR hok hK ha hL e0 G aa' ab'
  have taComment := ta_miss ptr_Comment 177 54 rfl
  have taCommentGroup := ta_miss ptr_CommentGroup 177 54 rfl
  have taField := ta_miss ptr_Field 177 54 rfl
  have taFieldList := ta_miss ptr_FieldList 177 54 rfl
  have taBadExpr := ta_miss ptr_BadExpr 177 54 rfl
  have taIdent := ta_miss ptr_Ident 177 54 rfl
  have taBasicLit := ta_miss ptr_BasicLit 177 54 rfl
  have taEllipsis := ta_miss ptr_Ellipsis 177 54 rfl
  have taFuncLit := ta_miss ptr_FuncLit 177 54 rfl
  have taCompositeLit := ta_miss ptr_CompositeLit 177 54 rfl
  have taParenExpr := ta_miss ptr_ParenExpr 177 54 rfl
  have taSelectorExpr := ta_miss ptr_SelectorExpr 177 54 rfl
  have taIndexExpr := ta_miss ptr_IndexExpr 177 54 rfl
  have taIndexListExpr := ta_miss ptr_IndexListExpr 177 54 rfl
  have taSliceExpr := ta_miss ptr_SliceExpr 177 54 rfl
  have taTypeAssertExpr := ta_miss ptr_TypeAssertExpr 177 54 rfl
  have taCallExpr := ta_miss ptr_CallExpr 177 54 rfl
  have taStarExpr := ta_miss ptr_StarExpr 177 54 rfl
  have taUnaryExpr := ta_miss ptr_UnaryExpr 177 54 rfl
  have taBinaryExpr := ta_miss ptr_BinaryExpr 177 54 rfl
  have taKeyValueExpr := ta_miss ptr_KeyValueExpr 177 54 rfl
  have taArrayType := ta_miss ptr_ArrayType 177 54 rfl
  have taStructType := ta_miss ptr_StructType 177 54 rfl
  have taFuncType := ta_miss ptr_FuncType 177 54 rfl
  have taInterfaceType := ta_miss ptr_InterfaceType 177 54 rfl
  have taMapType := ta_miss ptr_MapType 177 54 rfl
  have taChanType := ta_miss ptr_ChanType 177 54 rfl
  have taBadStmt := ta_miss ptr_BadStmt 177 54 rfl
  have taDeclStmt := ta_miss ptr_DeclStmt 177 54 rfl
  have taEmptyStmt := ta_miss ptr_EmptyStmt 177 54 rfl
  have taLabeledStmt := ta_miss ptr_LabeledStmt 177 54 rfl
  have taExprStmt := ta_miss ptr_ExprStmt 177 54 rfl
  have taSendStmt := ta_miss ptr_SendStmt 177 54 rfl
  have taIncDecStmt := ta_miss ptr_IncDecStmt 177 54 rfl
  have taH := ta_hit ptr_AssignStmt 54
  rcases hst : V.step t (some (Ast.assign a' p' t' b').kind) s with ⟨_ | t1, s1⟩
  · rw [hst] at HV
    have HV := hide HV
    go_enter Tryz.func25, Tryz.ntmps25
    go_wp2_with fail
    with_reducible refine Calls.mono HV.out ?_
    rintro e w1 ⟨rfl, hR1⟩
    go_wp2_with fail
    go_returns
    refine ⟨_, rfl, ?_⟩
    rw [HL.out]
    unfold walkX
    rw [show V.step t (some ⟨#[97, 115, 115, 105, 103, 110]⟩) s = (none, s1) from hst]
    exact HG.out.monoN hR1 (by omega)
  · rw [hst] at HV
    have HV := hide HV
    have hm2 := fun n W => hm1 n t1 W
    clear hm1
    go_enter Tryz.func25, Tryz.ntmps25
    go_wp2_with fail
    with_reducible refine Calls.mono HV.out ?_
    rintro e w1 ⟨rfl, hok1, hR1⟩
    have d1 : ∀ j, w1.cell? ⟨ad, j, none⟩ = w0.cell? ⟨ad, j, none⟩ := fun j => (HG.out.mid _ _ _ _ hR1).cell had
    have Kaq := hide (wlEG HG.out a' (by simp [Ast.good] at hg; omega) (fun k hk v hv => HKA.out k (by simp [Ast.kids, hk]) v hv) HAaq.out)
    go_wp2_with fail
    with_reducible refine Calls.mono (Kaq.out (b + 1 + 2 * (sizeXs (xtL b'))) t1 _ w1 (HG.out.okN hok1 (by omega)) (castR hR1 (by omega))) ?_
    rintro e w2 ⟨r2, rfl, hR2⟩
    have d2 : ∀ j, w2.cell? ⟨ad, j, none⟩ = w0.cell? ⟨ad, j, none⟩ := fun j => (HG.out.mid _ _ _ _ hR2).cell had
    have Kbq := hide (wlEG HG.out b' (by simp [Ast.good] at hg; omega) (fun k hk v hv => HKA.out k (by simp [Ast.kids, hk]) v hv) HAbq.out)
    go_wp2_with fail
    with_reducible refine Calls.mono (Kbq.out (b + 1 + 2 * (0)) t1 _ w2 (HG.out.okN hok1 (by omega)) (castR hR2 (by omega))) ?_
    rintro e w3 ⟨r3, rfl, hR3⟩
    have d3 : ∀ j, w3.cell? ⟨ad, j, none⟩ = w0.cell? ⟨ad, j, none⟩ := fun j => (HG.out.mid _ _ _ _ hR3).cell had
    go_wp2_with fail
    with_reducible refine Calls.mono (HG.out.nil b t1 t _ _ _ w3 (congrArg Prod.fst hst) (HG.out.okN hok1 (by omega)) (castR hR3 (by omega))) ?_
    rintro e wz ⟨rz, rfl, hRz⟩
    go_wp2_with fail
    go_returns
    refine ⟨_, rfl, ?_⟩
    rw [HL.out]
    unfold walkX
    rw [show V.step t (some ⟨#[97, 115, 115, 105, 103, 110]⟩) s = (some t1, s1) from hst]
    simpa only [xtO, List.nil_append, walkXs_append, walkXs] using hRz

set_option maxRecDepth 100000 in
set_option maxHeartbeats 16000000 in
theorem wk_goS {V : Vis} {D : Nat → Prop} {w0 : World} {ty fv : Nat} {xv : V.T → Value} {ok : Nat → V.T → Prop} {R : V.T → Nat → V.S → World → Prop} (G : GoodG V D w0 ty fv xv ok R) (p' : Int) (x' : Ast) (hg : (Ast.goS p' x').good = true) (hK : ∀ k, k ∈ (Ast.goS p' x').kids → ∀ v, At D w0 k v → WKG V ty xv ok R k.xt v) {v : Value} (ha : At D w0 (Ast.goS p' x') v) : WKG V ty xv ok R (Ast.goS p' x').xt v := by
  intro b t s w hok hR
  have hL : (Ast.goS p' x').xt = .mk ⟨#[103, 111]⟩ ([x'.xt]) := by simp [Ast.xt]
  have e0 : b + 2 * (Ast.goS p' x').xt.size = b + 1 + 2 * (x'.xt.size) + 1 := by rw [hL, XT.size]; (try simp only [sizeXs_append, sizeXs]) <;> omega
  rw [e0] at hok hR
  have HV := G.vis _ t s w _ _ hok hR ha hg
  obtain ⟨ad, rfl, had, vx', c0, c1, ax'⟩ := At_goS.1 ha
  have HL := hide hL
  have HKA := hide hK
  have HG := hide G
  have hcf := G.enters
  have hm0 := fun n W => G.meth n t W
  have hm1 := fun n t W => G.meth n t W
  clear hR hok hK ha hL e0 G
  have taComment := ta_miss ptr_Comment 180 54 rfl
  have taCommentGroup := ta_miss ptr_CommentGroup 180 54 rfl
  have taField := ta_miss ptr_Field 180 54 rfl
  have taFieldList := ta_miss ptr_FieldList 180 54 rfl
  have taBadExpr := ta_miss ptr_BadExpr 180 54 rfl
  have taIdent := ta_miss ptr_Ident 180 54 rfl
  have taBasicLit := ta_miss ptr_BasicLit 180 54 rfl
  have taEllipsis := ta_miss ptr_Ellipsis 180 54 rfl
  have taFuncLit := ta_miss ptr_FuncLit 180 54 rfl
  have taCompositeLit := ta_miss ptr_CompositeLit 180 54 rfl
  have taParenExpr := ta_miss ptr_ParenExpr 180 54 rfl
  have taSelectorExpr := ta_miss ptr_SelectorExpr 180 54 rfl
  have taIndexExpr := ta_miss ptr_IndexExpr 180 54 rfl
  have taIndexListExpr := ta_miss ptr_IndexListExpr 180 54 rfl
  have taSliceExpr := ta_miss ptr_SliceExpr 180 54 rfl
  have taTypeAssertExpr := ta_miss ptr_TypeAssertExpr 180 54 rfl
  have taCallExpr := ta_miss ptr_CallExpr 180 54 rfl
  have taStarExpr := ta_miss ptr_StarExpr 180 54 rfl
  have taUnaryExpr := ta_miss ptr_UnaryExpr 180 54 rfl
  have taBinaryExpr := ta_miss ptr_BinaryExpr 180 54 rfl
  have taKeyValueExpr := ta_miss ptr_KeyValueExpr 180 54 rfl
  have taArrayType := ta_miss ptr_ArrayType 180 54 rfl
  have taStructType := ta_miss ptr_StructType 180 54 rfl
  have taFuncType := ta_miss ptr_FuncType 180 54 rfl
  have taInterfaceType := ta_miss ptr_InterfaceType 180 54 rfl
  have taMapType := ta_miss ptr_MapType 180 54 rfl
  have taChanType := ta_miss ptr_ChanType 180 54 rfl
  have taBadStmt := ta_miss ptr_BadStmt 180 54 rfl
  have taDeclStmt := ta_miss ptr_DeclStmt 180 54 rfl
  have taEmptyStmt := ta_miss ptr_EmptyStmt 180 54 rfl
  have taLabeledStmt := ta_miss ptr_LabeledStmt 180 54 rfl
  have taExprStmt := ta_miss ptr_ExprStmt 180 54 rfl
  have taSendStmt := ta_miss ptr_SendStmt 180 54 rfl
  have taIncDecStmt := ta_miss ptr_IncDecStmt 180 54 rfl
  have taAssignStmt := ta_miss ptr_AssignStmt 180 54 rfl
  have taH := ta_hit ptr_GoStmt 54
  rcases hst : V.step t (some (Ast.goS p' x').kind) s with ⟨_ | t1, s1⟩
  · rw [hst] at HV
    have HV := hide HV
    go_enter Tryz.func25, Tryz.ntmps25
    go_wp2_with fail
    with_reducible refine Calls.mono HV.out ?_
    rintro e w1 ⟨rfl, hR1⟩
    go_wp2_with fail
    go_returns
    refine ⟨_, rfl, ?_⟩
    rw [HL.out]
    unfold walkX
    rw [show V.step t (some ⟨#[103, 111]⟩) s = (none, s1) from hst]
    exact HG.out.monoN hR1 (by omega)
  · rw [hst] at HV
    have HV := hide HV
    have hm2 := fun n W => hm1 n t1 W
    clear hm1
    go_enter Tryz.func25, Tryz.ntmps25
    go_wp2_with fail
    with_reducible refine Calls.mono HV.out ?_
    rintro e w1 ⟨rfl, hok1, hR1⟩
    have d1 : ∀ j, w1.cell? ⟨ad, j, none⟩ = w0.cell? ⟨ad, j, none⟩ := fun j => (HG.out.mid _ _ _ _ hR1).cell had
    have Kxq := hide (HKA.out x' (by simp [Ast.kids]) _ ax')
    clear ax'
    go_wp2_with fail
    with_reducible refine Calls.mono (Kxq.out (b + 1 + 2 * (0)) t1 _ w1 (HG.out.okN hok1 (by omega)) (castR hR1 (by omega))) ?_
    rintro e w2 ⟨r2, rfl, hR2⟩
    have d2 : ∀ j, w2.cell? ⟨ad, j, none⟩ = w0.cell? ⟨ad, j, none⟩ := fun j => (HG.out.mid _ _ _ _ hR2).cell had
    go_wp2_with fail
    with_reducible refine Calls.mono (HG.out.nil b t1 t _ _ _ w2 (congrArg Prod.fst hst) (HG.out.okN hok1 (by omega)) (castR hR2 (by omega))) ?_
    rintro e wz ⟨rz, rfl, hRz⟩
    go_wp2_with fail
    go_returns
    refine ⟨_, rfl, ?_⟩
    rw [HL.out]
    unfold walkX
    rw [show V.step t (some ⟨#[103, 111]⟩) s = (some t1, s1) from hst]
    simpa only [xtO, List.nil_append, walkXs_append, walkXs] using hRz

set_option maxRecDepth 100000 in
set_option maxHeartbeats 16000000 in
theorem wk_deferS {V : Vis} {D : Nat → Prop} {w0 : World} {ty fv : Nat} {xv : V.T → Value} {ok : Nat → V.T → Prop} {R : V.T → Nat → V.S → World → Prop} (G : GoodG V D w0 ty fv xv ok R) (p' : Int) (x' : Ast) (hg : (Ast.deferS p' x').good = true) (hK : ∀ k, k ∈ (Ast.deferS p' x').kids → ∀ v, At D w0 k v → WKG V ty xv ok R k.xt v) {v : Value} (ha : At D w0 (Ast.deferS p' x') v) : WKG V ty xv ok R (Ast.deferS p' x').xt v := by
  intro b t s w hok hR
  have hL : (Ast.deferS p' x').xt = .mk ⟨#[100, 101, 102, 101, 114]⟩ ([x'.xt]) := by simp [Ast.xt]
  have e0 : b + 2 * (Ast.deferS p' x').xt.size = b + 1 + 2 * (x'.xt.size) + 1 := by rw [hL, XT.size]; (try simp only [sizeXs_append, sizeXs]) <;> omega
  rw [e0] at hok hR
  have HV := G.vis _ t s w _ _ hok hR ha hg
  obtain ⟨ad, rfl, had, vx', c0, c1, ax'⟩ := At_deferS.1 ha
  have HL := hide hL
  have HKA := hide hK
  have HG := hide G
  have hcf := G.enters
  have hm0 := fun n W => G.meth n t W
  have hm1 := fun n t W => G.meth n t W
  clear hR hok hK ha hL e0 G
  have taComment := ta_miss ptr_Comment 183 54 rfl
  have taCommentGroup := ta_miss ptr_CommentGroup 183 54 rfl
  have taField := ta_miss ptr_Field 183 54 rfl
  have taFieldList := ta_miss ptr_FieldList 183 54 rfl
  have taBadExpr := ta_miss ptr_BadExpr 183 54 rfl
  have taIdent := ta_miss ptr_Ident 183 54 rfl
  have taBasicLit := ta_miss ptr_BasicLit 183 54 rfl
  have taEllipsis := ta_miss ptr_Ellipsis 183 54 rfl
  have taFuncLit := ta_miss ptr_FuncLit 183 54 rfl
  have taCompositeLit := ta_miss ptr_CompositeLit 183 54 rfl
  have taParenExpr := ta_miss ptr_ParenExpr 183 54 rfl
  have taSelectorExpr := ta_miss ptr_SelectorExpr 183 54 rfl
  have taIndexExpr := ta_miss ptr_IndexExpr 183 54 rfl
  have taIndexListExpr := ta_miss ptr_IndexListExpr 183 54 rfl
  have taSliceExpr := ta_miss ptr_SliceExpr 183 54 rfl
  have taTypeAssertExpr := ta_miss ptr_TypeAssertExpr 183 54 rfl
  have taCallExpr := ta_miss ptr_CallExpr 183 54 rfl
  have taStarExpr := ta_miss ptr_StarExpr 183 54 rfl
  have taUnaryExpr := ta_miss ptr_UnaryExpr 183 54 rfl
  have taBinaryExpr := ta_miss ptr_BinaryExpr 183 54 rfl
  have taKeyValueExpr := ta_miss ptr_KeyValueExpr 183 54 rfl
  have taArrayType := ta_miss ptr_ArrayType 183 54 rfl
  have taStructType := ta_miss ptr_StructType 183 54 rfl
  have taFuncType := ta_miss ptr_FuncType 183 54 rfl
  have taInterfaceType := ta_miss ptr_InterfaceType 183 54 rfl
  have taMapType := ta_miss ptr_MapType 183 54 rfl
  have taChanType := ta_miss ptr_ChanType 183 54 rfl
  have taBadStmt := ta_miss ptr_BadStmt 183 54 rfl
  have taDeclStmt := ta_miss ptr_DeclStmt 183 54 rfl
  have taEmptyStmt := ta_miss ptr_EmptyStmt 183 54 rfl
  have taLabeledStmt := ta_miss ptr_LabeledStmt 183 54 rfl
  have taExprStmt := ta_miss ptr_ExprStmt 183 54 rfl
  have taSendStmt := ta_miss ptr_SendStmt 183 54 rfl
  have taIncDecStmt := ta_miss ptr_IncDecStmt 183 54 rfl
  have taAssignStmt := ta_miss ptr_AssignStmt 183 54 rfl
  have taGoStmt := ta_miss ptr_GoStmt 183 54 rfl
  have taH := ta_hit ptr_DeferStmt 54
  rcases hst : V.step t (some (Ast.deferS p' x').kind) s with ⟨_ | t1, s1⟩
  · rw [hst] at HV
    have HV := hide HV
    go_enter Tryz.func25, Tryz.ntmps25
    go_wp2_with fail
    with_reducible refine Calls.mono HV.out ?_
    rintro e w1 ⟨rfl, hR1⟩
    go_wp2_with fail
    go_returns
    refine ⟨_, rfl, ?_⟩
    rw [HL.out]
    unfold walkX
    rw [show V.step t (some ⟨#[100, 101, 102, 101, 114]⟩) s = (none, s1) from hst]
    exact HG.out.monoN hR1 (by omega)
  · rw [hst] at HV
    have HV := hide HV
    have hm2 := fun n W => hm1 n t1 W
    clear hm1
    go_enter Tryz.func25, Tryz.ntmps25
    go_wp2_with fail
    with_reducible refine Calls.mono HV.out ?_
    rintro e w1 ⟨rfl, hok1, hR1⟩
    have d1 : ∀ j, w1.cell? ⟨ad, j, none⟩ = w0.cell? ⟨ad, j, none⟩ := fun j => (HG.out.mid _ _ _ _ hR1).cell had
    have Kxq := hide (HKA.out x' (by simp [Ast.kids]) _ ax')
    clear ax'
    go_wp2_with fail
    with_reducible refine Calls.mono (Kxq.out (b + 1 + 2 * (0)) t1 _ w1 (HG.out.okN hok1 (by omega)) (castR hR1 (by omega))) ?_
    rintro e w2 ⟨r2, rfl, hR2⟩
    have d2 : ∀ j, w2.cell? ⟨ad, j, none⟩ = w0.cell? ⟨ad, j, none⟩ := fun j => (HG.out.mid _ _ _ _ hR2).cell had
    go_wp2_with fail
    with_reducible refine Calls.mono (HG.out.nil b t1 t _ _ _ w2 (congrArg Prod.fst hst) (HG.out.okN hok1 (by omega)) (castR hR2 (by omega))) ?_
    rintro e wz ⟨rz, rfl, hRz⟩
    go_wp2_with fail
    go_returns
    refine ⟨_, rfl, ?_⟩
    rw [HL.out]
    unfold walkX
    rw [show V.step t (some ⟨#[100, 101, 102, 101, 114]⟩) s = (some t1, s1) from hst]
    simpa only [xtO, List.nil_append, walkXs_append, walkXs] using hRz

set_option maxRecDepth 100000 in
set_option maxHeartbeats 16000000 in
theorem wk_ret {V : Vis} {D : Nat → Prop} {w0 : World} {ty fv : Nat} {xv : V.T → Value} {ok : Nat → V.T → Prop} {R : V.T → Nat → V.S → World → Prop} (G : GoodG V D w0 ty fv xv ok R) (p' : Int) (a' : List Ast) (hg : (Ast.ret p' a').good = true) (hK : ∀ k, k ∈ (Ast.ret p' a').kids → ∀ v, At D w0 k v → WKG V ty xv ok R k.xt v) {v : Value} (ha : At D w0 (Ast.ret p' a') v) : WKG V ty xv ok R (Ast.ret p' a').xt v := by
  intro b t s w hok hR
  have hL : (Ast.ret p' a').xt = .mk ⟨#[114, 101, 116, 117, 114, 110]⟩ (xtL a') := by simp [Ast.xt]
  have e0 : b + 2 * (Ast.ret p' a').xt.size = b + 1 + 2 * (sizeXs (xtL a')) + 1 := by rw [hL, XT.size]; (try simp only [sizeXs_append, sizeXs]) <;> omega
  rw [e0] at hok hR
  have HV := G.vis _ t s w _ _ hok hR ha hg
  obtain ⟨ad, rfl, had, va', c0, c1, aa'⟩ := At_ret.1 ha
  have HL := hide hL
  have HKA := hide hK
  have HG := hide G
  have hcf := G.enters
  have hm0 := fun n W => G.meth n t W
  have hm1 := fun n t W => G.meth n t W
  have HAaq := hide aa'
  clear hR hok hK ha hL e0 G aa'
  have taComment := ta_miss ptr_Comment 186 54 rfl
  have taCommentGroup := ta_miss ptr_CommentGroup 186 54 rfl
  have taField := ta_miss ptr_Field 186 54 rfl
  have taFieldList := ta_miss ptr_FieldList 186 54 rfl
  have taBadExpr := ta_miss ptr_BadExpr 186 54 rfl
  have taIdent := ta_miss ptr_Ident 186 54 rfl
  have taBasicLit := ta_miss ptr_BasicLit 186 54 rfl
  have taEllipsis := ta_miss ptr_Ellipsis 186 54 rfl
  have taFuncLit := ta_miss ptr_FuncLit 186 54 rfl
  have taCompositeLit := ta_miss ptr_CompositeLit 186 54 rfl
  have taParenExpr := ta_miss ptr_ParenExpr 186 54 rfl
  have taSelectorExpr := ta_miss ptr_SelectorExpr 186 54 rfl
  have taIndexExpr := ta_miss ptr_IndexExpr 186 54 rfl
  have taIndexListExpr := ta_miss ptr_IndexListExpr 186 54 rfl
  have taSliceExpr := ta_miss ptr_SliceExpr 186 54 rfl
  have taTypeAssertExpr := ta_miss ptr_TypeAssertExpr 186 54 rfl
  have taCallExpr := ta_miss ptr_CallExpr 186 54 rfl
  have taStarExpr := ta_miss ptr_StarExpr 186 54 rfl
  have taUnaryExpr := ta_miss ptr_UnaryExpr 186 54 rfl
  have taBinaryExpr := ta_miss ptr_BinaryExpr 186 54 rfl
  have taKeyValueExpr := ta_miss ptr_KeyValueExpr 186 54 rfl
  have taArrayType := ta_miss ptr_ArrayType 186 54 rfl
  have taStructType := ta_miss ptr_StructType 186 54 rfl
  have taFuncType := ta_miss ptr_FuncType 186 54 rfl
  have taInterfaceType := ta_miss ptr_InterfaceType 186 54 rfl
  have taMapType := ta_miss ptr_MapType 186 54 rfl
  have taChanType := ta_miss ptr_ChanType 186 54 rfl
  have taBadStmt := ta_miss ptr_BadStmt 186 54 rfl
  have taDeclStmt := ta_miss ptr_DeclStmt 186 54 rfl
  have taEmptyStmt := ta_miss ptr_EmptyStmt 186 54 rfl
  have taLabeledStmt := ta_miss ptr_LabeledStmt 186 54 rfl
  have taExprStmt := ta_miss ptr_ExprStmt 186 54 rfl
  have taSendStmt := ta_miss ptr_SendStmt 186 54 rfl
  have taIncDecStmt := ta_miss ptr_IncDecStmt 186 54 rfl
  have taAssignStmt := ta_miss ptr_AssignStmt 186 54 rfl
  have taGoStmt := ta_miss ptr_GoStmt 186 54 rfl
  have taDeferStmt := ta_miss ptr_DeferStmt 186 54 rfl
  have taH := ta_hit ptr_ReturnStmt 54
  rcases hst : V.step t (some (Ast.ret p' a').kind) s with ⟨_ | t1, s1⟩
  · rw [hst] at HV
    have HV := hide HV
    go_enter Tryz.func25, Tryz.ntmps25
    go_wp2_with fail
    with_reducible refine Calls.mono HV.out ?_
    rintro e w1 ⟨rfl, hR1⟩
    go_wp2_with fail
    go_returns
    refine ⟨_, rfl, ?_⟩
    rw [HL.out]
    unfold walkX
    rw [show V.step t (some ⟨#[114, 101, 116, 117, 114, 110]⟩) s = (none, s1) from hst]
    exact HG.out.monoN hR1 (by omega)
  · rw [hst] at HV
    have HV := hide HV
    have hm2 := fun n W => hm1 n t1 W
    clear hm1
    go_enter Tryz.func25, Tryz.ntmps25
    go_wp2_with fail
    with_reducible refine Calls.mono HV.out ?_
    rintro e w1 ⟨rfl, hok1, hR1⟩
    have d1 : ∀ j, w1.cell? ⟨ad, j, none⟩ = w0.cell? ⟨ad, j, none⟩ := fun j => (HG.out.mid _ _ _ _ hR1).cell had
    have Kaq := hide (wlEG HG.out a' (by simp [Ast.good] at hg; omega) (fun k hk v hv => HKA.out k (by simp [Ast.kids, hk]) v hv) HAaq.out)
    go_wp2_with fail
    with_reducible refine Calls.mono (Kaq.out (b + 1 + 2 * (0)) t1 _ w1 (HG.out.okN hok1 (by omega)) (castR hR1 (by omega))) ?_
    rintro e w2 ⟨r2, rfl, hR2⟩
    have d2 : ∀ j, w2.cell? ⟨ad, j, none⟩ = w0.cell? ⟨ad, j, none⟩ := fun j => (HG.out.mid _ _ _ _ hR2).cell had
    go_wp2_with fail
    with_reducible refine Calls.mono (HG.out.nil b t1 t _ _ _ w2 (congrArg Prod.fst hst) (HG.out.okN hok1 (by omega)) (castR hR2 (by omega))) ?_
    rintro e wz ⟨rz, rfl, hRz⟩
    go_wp2_with fail
    go_returns
    refine ⟨_, rfl, ?_⟩
    rw [HL.out]
    unfold walkX
    rw [show V.step t (some ⟨#[114, 101, 116, 117, 114, 110]⟩) s = (some t1, s1) from hst]
    simpa only [xtO, List.nil_append, walkXs_append, walkXs] using hRz

set_option maxRecDepth 100000 in
set_option maxHeartbeats 16000000 in
theorem wk_branch {V : Vis} {D : Nat → Prop} {w0 : World} {ty fv : Nat} {xv : V.T → Value} {ok : Nat → V.T → Prop} {R : V.T → Nat → V.S → World → Prop} (G : GoodG V D w0 ty fv xv ok R) (p' : Int) (t' : Int) (x' : Option Ast) (hg : (Ast.branch p' t' x').good = true) (hK : ∀ k, k ∈ (Ast.branch p' t' x').kids → ∀ v, At D w0 k v → WKG V ty xv ok R k.xt v) {v : Value} (ha : At D w0 (Ast.branch p' t' x') v) : WKG V ty xv ok R (Ast.branch p' t' x').xt v := by
  intro b t s w hok hR
  have hL : (Ast.branch p' t' x').xt = .mk ⟨#[98, 114, 97, 110, 99, 104]⟩ (xtO x') := by simp [Ast.xt]
  have e0 : b + 2 * (Ast.branch p' t' x').xt.size = b + 1 + 2 * (sizeXs (xtO x')) + 1 := by rw [hL, XT.size]; (try simp only [sizeXs_append, sizeXs]) <;> omega
  rw [e0] at hok hR
  have HV := G.vis _ t s w _ _ hok hR ha hg
  obtain ⟨ad, rfl, had, vx', c0, c1, c2, ax'⟩ := At_branch.1 ha
  have HL := hide hL
  have HKA := hide hK
  have HG := hide G
  have hcf := G.enters
  have hm0 := fun n W => G.meth n t W
  have hm1 := fun n t W => G.meth n t W
  have HAxq := hide ax'
  clear hR hok hK ha hL e0 G ax'
  have taComment := ta_miss ptr_Comment 189 54 rfl
  have taCommentGroup := ta_miss ptr_CommentGroup 189 54 rfl
  have taField := ta_miss ptr_Field 189 54 rfl
  have taFieldList := ta_miss ptr_FieldList 189 54 rfl
  have taBadExpr := ta_miss ptr_BadExpr 189 54 rfl
  have taIdent := ta_miss ptr_Ident 189 54 rfl
  have taBasicLit := ta_miss ptr_BasicLit 189 54 rfl
  have taEllipsis := ta_miss ptr_Ellipsis 189 54 rfl
  have taFuncLit := ta_miss ptr_FuncLit 189 54 rfl
  have taCompositeLit := ta_miss ptr_CompositeLit 189 54 rfl
  have taParenExpr := ta_miss ptr_ParenExpr 189 54 rfl
  have taSelectorExpr := ta_miss ptr_SelectorExpr 189 54 rfl
  have taIndexExpr := ta_miss ptr_IndexExpr 189 54 rfl
  have taIndexListExpr := ta_miss ptr_IndexListExpr 189 54 rfl
  have taSliceExpr := ta_miss ptr_SliceExpr 189 54 rfl
  have taTypeAssertExpr := ta_miss ptr_TypeAssertExpr 189 54 rfl
  have taCallExpr := ta_miss ptr_CallExpr 189 54 rfl
  have taStarExpr := ta_miss ptr_StarExpr 189 54 rfl
  have taUnaryExpr := ta_miss ptr_UnaryExpr 189 54 rfl
  have taBinaryExpr := ta_miss ptr_BinaryExpr 189 54 rfl
  have taKeyValueExpr := ta_miss ptr_KeyValueExpr 189 54 rfl
  have taArrayType := ta_miss ptr_ArrayType 189 54 rfl
  have taStructType := ta_miss ptr_StructType 189 54 rfl
  have taFuncType := ta_miss ptr_FuncType 189 54 rfl
  have taInterfaceType := ta_miss ptr_InterfaceType 189 54 rfl
  have taMapType := ta_miss ptr_MapType 189 54 rfl
  have taChanType := ta_miss ptr_ChanType 189 54 rfl
  have taBadStmt := ta_miss ptr_BadStmt 189 54 rfl
  have taDeclStmt := ta_miss ptr_DeclStmt 189 54 rfl
  have taEmptyStmt := ta_miss ptr_EmptyStmt 189 54 rfl
  have taLabeledStmt := ta_miss ptr_LabeledStmt 189 54 rfl
  have taExprStmt := ta_miss ptr_ExprStmt 189 54 rfl
  have taSendStmt := ta_miss ptr_SendStmt 189 54 rfl
  have taIncDecStmt := ta_miss ptr_IncDecStmt 189 54 rfl
  have taAssignStmt := ta_miss ptr_AssignStmt 189 54 rfl
  have taGoStmt := ta_miss ptr_GoStmt 189 54 rfl
  have taDeferStmt := ta_miss ptr_DeferStmt 189 54 rfl
  have taReturnStmt := ta_miss ptr_ReturnStmt 189 54 rfl
  have taH := ta_hit ptr_BranchStmt 54
  rcases hst : V.step t (some (Ast.branch p' t' x').kind) s with ⟨_ | t1, s1⟩
  · rw [hst] at HV
    have HV := hide HV
    go_enter Tryz.func25, Tryz.ntmps25
    go_wp2_with fail
    with_reducible refine Calls.mono HV.out ?_
    rintro e w1 ⟨rfl, hR1⟩
    go_wp2_with fail
    go_returns
    refine ⟨_, rfl, ?_⟩
    rw [HL.out]
    unfold walkX
    rw [show V.step t (some ⟨#[98, 114, 97, 110, 99, 104]⟩) s = (none, s1) from hst]
    exact HG.out.monoN hR1 (by omega)
  · rw [hst] at HV
    have HV := hide HV
    have hm2 := fun n W => hm1 n t1 W
    clear hm1
    go_enter Tryz.func25, Tryz.ntmps25
    go_wp2_with fail
    with_reducible refine Calls.mono HV.out ?_
    rintro e w1 ⟨rfl, hok1, hR1⟩
    have d1 : ∀ j, w1.cell? ⟨ad, j, none⟩ = w0.cell? ⟨ad, j, none⟩ := fun j => (HG.out.mid _ _ _ _ hR1).cell had
    go_upto_region 148 with fail
    rcases x' with _ | x'
    · have ax' := HAxq.out
      rw [AtQ_none] at ax'
      subst ax'
      have exq : sizeXs (xtO none) = 0 := rfl
      go_wp2_with fail
      with_reducible refine Calls.mono (HG.out.nil b t1 t _ _ _ w1 (congrArg Prod.fst hst) (HG.out.okN hok1 (by omega)) (castR hR1 (by omega))) ?_
      rintro e wz ⟨rz, rfl, hRz⟩
      go_wp2_with fail
      go_returns
      refine ⟨_, rfl, ?_⟩
      rw [HL.out]
      unfold walkX
      rw [show V.step t (some ⟨#[98, 114, 97, 110, 99, 104]⟩) s = (some t1, s1) from hst]
      simpa only [xtO, List.nil_append, walkXs_append, walkXs] using hRz
    · have ax' := HAxq.out
      rw [AtQ_some] at ax'
      obtain ⟨px', hpx', ax'⟩ := ax'
      subst hpx'
      have exq : sizeXs (xtO (some x')) = x'.xt.size := by simp [xtO, sizeXs]
      have Kxq := hide (HKA.out x' (by simp [Ast.kids]) _ ax')
      clear ax'
      go_wp2_with fail
      with_reducible refine Calls.mono (Kxq.out (b + 1 + 2 * (0)) t1 _ w1 (HG.out.okN hok1 (by omega)) (castR hR1 (by omega))) ?_
      rintro e w2 ⟨r2, rfl, hR2⟩
      have d2 : ∀ j, w2.cell? ⟨ad, j, none⟩ = w0.cell? ⟨ad, j, none⟩ := fun j => (HG.out.mid _ _ _ _ hR2).cell had
      go_wp2_with fail
      with_reducible refine Calls.mono (HG.out.nil b t1 t _ _ _ w2 (congrArg Prod.fst hst) (HG.out.okN hok1 (by omega)) (castR hR2 (by omega))) ?_
      rintro e wz ⟨rz, rfl, hRz⟩
      go_wp2_with fail
      go_returns
      refine ⟨_, rfl, ?_⟩
      rw [HL.out]
      unfold walkX
      rw [show V.step t (some ⟨#[98, 114, 97, 110, 99, 104]⟩) s = (some t1, s1) from hst]
      simpa only [xtO, List.nil_append, walkXs_append, walkXs] using hRz

set_option maxRecDepth 100000 in
set_option maxHeartbeats 16000000 in
theorem wk_label {V : Vis} {D : Nat → Prop} {w0 : World} {ty fv : Nat} {xv : V.T → Value} {ok : Nat → V.T → Prop} {R : V.T → Nat → V.S → World → Prop} (G : GoodG V D w0 ty fv xv ok R) (x' : Ast) (c' : Int) (y' : Ast) (hg : (Ast.label x' c' y').good = true) (hK : ∀ k, k ∈ (Ast.label x' c' y').kids → ∀ v, At D w0 k v → WKG V ty xv ok R k.xt v) {v : Value} (ha : At D w0 (Ast.label x' c' y') v) : WKG V ty xv ok R (Ast.label x' c' y').xt v := by
  intro b t s w hok hR
  have hL : (Ast.label x' c' y').xt = .mk ⟨#[108, 97, 98, 101, 108]⟩ ([x'.xt] ++ [y'.xt]) := by simp [Ast.xt]
  have e0 : b + 2 * (Ast.label x' c' y').xt.size = b + 1 + 2 * (x'.xt.size + y'.xt.size) + 1 := by rw [hL, XT.size]; (try simp only [sizeXs_append, sizeXs]) <;> omega
  rw [e0] at hok hR
  have HV := G.vis _ t s w _ _ hok hR ha hg
  obtain ⟨ad, rfl, had, vx', vy', c0, ax', c1, c2, ay'⟩ := At_label.1 ha
  have HL := hide hL
  have HKA := hide hK
  have HG := hide G
  have hcf := G.enters
  have hm0 := fun n W => G.meth n t W
  have hm1 := fun n t W => G.meth n t W
  clear hR hok hK ha hL e0 G
  have taComment := ta_miss ptr_Comment 165 54 rfl
  have taCommentGroup := ta_miss ptr_CommentGroup 165 54 rfl
  have taField := ta_miss ptr_Field 165 54 rfl
  have taFieldList := ta_miss ptr_FieldList 165 54 rfl
  have taBadExpr := ta_miss ptr_BadExpr 165 54 rfl
  have taIdent := ta_miss ptr_Ident 165 54 rfl
  have taBasicLit := ta_miss ptr_BasicLit 165 54 rfl
  have taEllipsis := ta_miss ptr_Ellipsis 165 54 rfl
  have taFuncLit := ta_miss ptr_FuncLit 165 54 rfl
  have taCompositeLit := ta_miss ptr_CompositeLit 165 54 rfl
  have taParenExpr := ta_miss ptr_ParenExpr 165 54 rfl
  have taSelectorExpr := ta_miss ptr_SelectorExpr 165 54 rfl
  have taIndexExpr := ta_miss ptr_IndexExpr 165 54 rfl
  have taIndexListExpr := ta_miss ptr_IndexListExpr 165 54 rfl
  have taSliceExpr := ta_miss ptr_SliceExpr 165 54 rfl
  have taTypeAssertExpr := ta_miss ptr_TypeAssertExpr 165 54 rfl
  have taCallExpr := ta_miss ptr_CallExpr 165 54 rfl
  have taStarExpr := ta_miss ptr_StarExpr 165 54 rfl
  have taUnaryExpr := ta_miss ptr_UnaryExpr 165 54 rfl
  have taBinaryExpr := ta_miss ptr_BinaryExpr 165 54 rfl
  have taKeyValueExpr := ta_miss ptr_KeyValueExpr 165 54 rfl
  have taArrayType := ta_miss ptr_ArrayType 165 54 rfl
  have taStructType := ta_miss ptr_StructType 165 54 rfl
  have taFuncType := ta_miss ptr_FuncType 165 54 rfl
  have taInterfaceType := ta_miss ptr_InterfaceType 165 54 rfl
  have taMapType := ta_miss ptr_MapType 165 54 rfl
  have taChanType := ta_miss ptr_ChanType 165 54 rfl
  have taBadStmt := ta_miss ptr_BadStmt 165 54 rfl
  have taDeclStmt := ta_miss ptr_DeclStmt 165 54 rfl
  have taEmptyStmt := ta_miss ptr_EmptyStmt 165 54 rfl
  have taH := ta_hit ptr_LabeledStmt 54
  rcases hst : V.step t (some (Ast.label x' c' y').kind) s with ⟨_ | t1, s1⟩
  · rw [hst] at HV
    have HV := hide HV
    go_enter Tryz.func25, Tryz.ntmps25
    go_wp2_with fail
    with_reducible refine Calls.mono HV.out ?_
    rintro e w1 ⟨rfl, hR1⟩
    go_wp2_with fail
    go_returns
    refine ⟨_, rfl, ?_⟩
    rw [HL.out]
    unfold walkX
    rw [show V.step t (some ⟨#[108, 97, 98, 101, 108]⟩) s = (none, s1) from hst]
    exact HG.out.monoN hR1 (by omega)
  · rw [hst] at HV
    have HV := hide HV
    have hm2 := fun n W => hm1 n t1 W
    clear hm1
    go_enter Tryz.func25, Tryz.ntmps25
    go_wp2_with fail
    with_reducible refine Calls.mono HV.out ?_
    rintro e w1 ⟨rfl, hok1, hR1⟩
    have d1 : ∀ j, w1.cell? ⟨ad, j, none⟩ = w0.cell? ⟨ad, j, none⟩ := fun j => (HG.out.mid _ _ _ _ hR1).cell had
    have Kxq := hide (HKA.out x' (by simp [Ast.kids]) _ ax')
    clear ax'
    go_wp2_with fail
    with_reducible refine Calls.mono (Kxq.out (b + 1 + 2 * (y'.xt.size)) t1 _ w1 (HG.out.okN hok1 (by omega)) (castR hR1 (by omega))) ?_
    rintro e w2 ⟨r2, rfl, hR2⟩
    have d2 : ∀ j, w2.cell? ⟨ad, j, none⟩ = w0.cell? ⟨ad, j, none⟩ := fun j => (HG.out.mid _ _ _ _ hR2).cell had
    have Kyq := hide (HKA.out y' (by simp [Ast.kids]) _ ay')
    clear ay'
    go_wp2_with fail
    with_reducible refine Calls.mono (Kyq.out (b + 1 + 2 * (0)) t1 _ w2 (HG.out.okN hok1 (by omega)) (castR hR2 (by omega))) ?_
    rintro e w3 ⟨r3, rfl, hR3⟩
    have d3 : ∀ j, w3.cell? ⟨ad, j, none⟩ = w0.cell? ⟨ad, j, none⟩ := fun j => (HG.out.mid _ _ _ _ hR3).cell had
    go_wp2_with fail
    with_reducible refine Calls.mono (HG.out.nil b t1 t _ _ _ w3 (congrArg Prod.fst hst) (HG.out.okN hok1 (by omega)) (castR hR3 (by omega))) ?_
    rintro e wz ⟨rz, rfl, hRz⟩
    go_wp2_with fail
    go_returns
    refine ⟨_, rfl, ?_⟩
    rw [HL.out]
    unfold walkX
    rw [show V.step t (some ⟨#[108, 97, 98, 101, 108]⟩) s = (some t1, s1) from hst]
    simpa only [xtO, List.nil_append, walkXs_append, walkXs] using hRz

set_option maxRecDepth 100000 in
set_option maxHeartbeats 16000000 in
theorem wk_block {V : Vis} {D : Nat → Prop} {w0 : World} {ty fv : Nat} {xv : V.T → Value} {ok : Nat → V.T → Prop} {R : V.T → Nat → V.S → World → Prop} (G : GoodG V D w0 ty fv xv ok R) (l' : Int) (a' : List Ast) (r' : Int) (hg : (Ast.block l' a' r').good = true) (hK : ∀ k, k ∈ (Ast.block l' a' r').kids → ∀ v, At D w0 k v → WKG V ty xv ok R k.xt v) {v : Value} (ha : At D w0 (Ast.block l' a' r') v) : WKG V ty xv ok R (Ast.block l' a' r').xt v := by
  intro b t s w hok hR
  have hL : (Ast.block l' a' r').xt = .mk ⟨#[98, 108, 111, 99, 107]⟩ (xtL a') := by simp [Ast.xt]
  have e0 : b + 2 * (Ast.block l' a' r').xt.size = b + 1 + 2 * (sizeXs (xtL a')) + 1 := by rw [hL, XT.size]; (try simp only [sizeXs_append, sizeXs]) <;> omega
  rw [e0] at hok hR
  have HV := G.vis _ t s w _ _ hok hR ha hg
  obtain ⟨ad, rfl, had, va', c0, c1, aa', c2⟩ := At_block.1 ha
  have HL := hide hL
  have HKA := hide hK
  have HG := hide G
  have hcf := G.enters
  have hm0 := fun n W => G.meth n t W
  have hm1 := fun n t W => G.meth n t W
  have HAaq := hide aa'
  clear hR hok hK ha hL e0 G aa'
  have taComment := ta_miss ptr_Comment 98 54 rfl
  have taCommentGroup := ta_miss ptr_CommentGroup 98 54 rfl
  have taField := ta_miss ptr_Field 98 54 rfl
  have taFieldList := ta_miss ptr_FieldList 98 54 rfl
  have taBadExpr := ta_miss ptr_BadExpr 98 54 rfl
  have taIdent := ta_miss ptr_Ident 98 54 rfl
  have taBasicLit := ta_miss ptr_BasicLit 98 54 rfl
  have taEllipsis := ta_miss ptr_Ellipsis 98 54 rfl
  have taFuncLit := ta_miss ptr_FuncLit 98 54 rfl
  have taCompositeLit := ta_miss ptr_CompositeLit 98 54 rfl
  have taParenExpr := ta_miss ptr_ParenExpr 98 54 rfl
  have taSelectorExpr := ta_miss ptr_SelectorExpr 98 54 rfl
  have taIndexExpr := ta_miss ptr_IndexExpr 98 54 rfl
  have taIndexListExpr := ta_miss ptr_IndexListExpr 98 54 rfl
  have taSliceExpr := ta_miss ptr_SliceExpr 98 54 rfl
  have taTypeAssertExpr := ta_miss ptr_TypeAssertExpr 98 54 rfl
  have taCallExpr := ta_miss ptr_CallExpr 98 54 rfl
  have taStarExpr := ta_miss ptr_StarExpr 98 54 rfl
  have taUnaryExpr := ta_miss ptr_UnaryExpr 98 54 rfl
  have taBinaryExpr := ta_miss ptr_BinaryExpr 98 54 rfl
  have taKeyValueExpr := ta_miss ptr_KeyValueExpr 98 54 rfl
  have taArrayType := ta_miss ptr_ArrayType 98 54 rfl
  have taStructType := ta_miss ptr_StructType 98 54 rfl
  have taFuncType := ta_miss ptr_FuncType 98 54 rfl
  have taInterfaceType := ta_miss ptr_InterfaceType 98 54 rfl
  have taMapType := ta_miss ptr_MapType 98 54 rfl
  have taChanType := ta_miss ptr_ChanType 98 54 rfl
  have taBadStmt := ta_miss ptr_BadStmt 98 54 rfl
  have taDeclStmt := ta_miss ptr_DeclStmt 98 54 rfl
  have taEmptyStmt := ta_miss ptr_EmptyStmt 98 54 rfl
  have taLabeledStmt := ta_miss ptr_LabeledStmt 98 54 rfl
  have taExprStmt := ta_miss ptr_ExprStmt 98 54 rfl
  have taSendStmt := ta_miss ptr_SendStmt 98 54 rfl
  have taIncDecStmt := ta_miss ptr_IncDecStmt 98 54 rfl
  have taAssignStmt := ta_miss ptr_AssignStmt 98 54 rfl
  have taGoStmt := ta_miss ptr_GoStmt 98 54 rfl
  have taDeferStmt := ta_miss ptr_DeferStmt 98 54 rfl
  have taReturnStmt := ta_miss ptr_ReturnStmt 98 54 rfl
  have taBranchStmt := ta_miss ptr_BranchStmt 98 54 rfl
  have taH := ta_hit ptr_BlockStmt 54
  rcases hst : V.step t (some (Ast.block l' a' r').kind) s with ⟨_ | t1, s1⟩
  · rw [hst] at HV
    have HV := hide HV
    go_enter Tryz.func25, Tryz.ntmps25
    go_wp2_with fail
    with_reducible refine Calls.mono HV.out ?_
    rintro e w1 ⟨rfl, hR1⟩
    go_wp2_with fail
    go_returns
    refine ⟨_, rfl, ?_⟩
    rw [HL.out]
    unfold walkX
    rw [show V.step t (some ⟨#[98, 108, 111, 99, 107]⟩) s = (none, s1) from hst]
    exact HG.out.monoN hR1 (by omega)
  · rw [hst] at HV
    have HV := hide HV
    have hm2 := fun n W => hm1 n t1 W
    clear hm1
    go_enter Tryz.func25, Tryz.ntmps25
    go_wp2_with fail
    with_reducible refine Calls.mono HV.out ?_
    rintro e w1 ⟨rfl, hok1, hR1⟩
    have d1 : ∀ j, w1.cell? ⟨ad, j, none⟩ = w0.cell? ⟨ad, j, none⟩ := fun j => (HG.out.mid _ _ _ _ hR1).cell had
    have Kaq := hide (wlSG HG.out a' (by simp [Ast.good] at hg; omega) (fun k hk v hv => HKA.out k (by simp [Ast.kids, hk]) v hv) HAaq.out)
    go_wp2_with fail
    with_reducible refine Calls.mono (Kaq.out (b + 1 + 2 * (0)) t1 _ w1 (HG.out.okN hok1 (by omega)) (castR hR1 (by omega))) ?_
    rintro e w2 ⟨r2, rfl, hR2⟩
    have d2 : ∀ j, w2.cell? ⟨ad, j, none⟩ = w0.cell? ⟨ad, j, none⟩ := fun j => (HG.out.mid _ _ _ _ hR2).cell had
    go_wp2_with fail
    with_reducible refine Calls.mono (HG.out.nil b t1 t _ _ _ w2 (congrArg Prod.fst hst) (HG.out.okN hok1 (by omega)) (castR hR2 (by omega))) ?_
    rintro e wz ⟨rz, rfl, hRz⟩
    go_wp2_with fail
    go_returns
    refine ⟨_, rfl, ?_⟩
    rw [HL.out]
    unfold walkX
    rw [show V.step t (some ⟨#[98, 108, 111, 99, 107]⟩) s = (some t1, s1) from hst]
    simpa only [xtO, List.nil_append, walkXs_append, walkXs] using hRz

end Go.Proofs.YtkkgfgllfbahlaaGreatFmt
