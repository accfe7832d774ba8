/- ast.Walk at some kinds of nodes (printed by gen_wg.py). -/
import Derived.Test.YtkkgfgllfbahlaaGreatFmtWl
set_option linter.unusedVariables false
set_option linter.unusedSimpArgs false
namespace Go.Proofs.YtkkgfgllfbahlaaGreatFmt
open Go Go.RowKit
set_option linter.unusedSimpArgs false

set_option maxRecDepth 100000 in
set_option maxHeartbeats 16000000 in
theorem wk_ifS {V : Vis} {D : Nat → Prop} {w0 : World} {ty fv : Nat} {xv : V.T → Value} {ok : Nat → V.T → Prop} {R : V.T → Nat → V.S → World → Prop} (G : GoodG V D w0 ty fv xv ok R) (p' : Int) (x' : Option Ast) (y' : Ast) (z' : Ast) (u' : Option Ast) (hg : (Ast.ifS p' x' y' z' u').good = true) (hK : ∀ k, k ∈ (Ast.ifS p' x' y' z' u').kids → ∀ v, At D w0 k v → WKG V ty xv ok R k.xt v) {v : Value} (ha : At D w0 (Ast.ifS p' x' y' z' u') v) : WKG V ty xv ok R (Ast.ifS p' x' y' z' u').xt v := by
  intro b t s w hok hR
  have hL : (Ast.ifS p' x' y' z' u').xt = .mk ⟨#[105, 102]⟩ (xtO x' ++ [y'.xt] ++ [z'.xt] ++ xtO u') := by simp [Ast.xt]
  have e0 : b + 2 * (Ast.ifS p' x' y' z' u').xt.size = b + 1 + 2 * (sizeXs (xtO x') + y'.xt.size + z'.xt.size + sizeXs (xtO u')) + 1 := by rw [hL, XT.size]; (try simp only [sizeXs_append, sizeXs]) <;> omega
  rw [e0] at hok hR
  have HV := G.vis _ t s w _ _ hok hR ha hg
  obtain ⟨ad, rfl, had, vx', vy', vz', vu', c0, c1, ax', c2, ay', c3, az', c4, au'⟩ := At_ifS.1 ha
  have HL := hide hL
  have HKA := hide hK
  have HG := hide G
  have hcf := G.enters
  have hm0 := fun n W => G.meth n t W
  have hm1 := fun n t W => G.meth n t W
  have HAxq := hide ax'
  have HAuq := hide au'
  clear hR hok hK ha hL e0 G ax' au'
  have taComment := ta_miss ptr_Comment 196 54 rfl
  have taCommentGroup := ta_miss ptr_CommentGroup 196 54 rfl
  have taField := ta_miss ptr_Field 196 54 rfl
  have taFieldList := ta_miss ptr_FieldList 196 54 rfl
  have taBadExpr := ta_miss ptr_BadExpr 196 54 rfl
  have taIdent := ta_miss ptr_Ident 196 54 rfl
  have taBasicLit := ta_miss ptr_BasicLit 196 54 rfl
  have taEllipsis := ta_miss ptr_Ellipsis 196 54 rfl
  have taFuncLit := ta_miss ptr_FuncLit 196 54 rfl
  have taCompositeLit := ta_miss ptr_CompositeLit 196 54 rfl
  have taParenExpr := ta_miss ptr_ParenExpr 196 54 rfl
  have taSelectorExpr := ta_miss ptr_SelectorExpr 196 54 rfl
  have taIndexExpr := ta_miss ptr_IndexExpr 196 54 rfl
  have taIndexListExpr := ta_miss ptr_IndexListExpr 196 54 rfl
  have taSliceExpr := ta_miss ptr_SliceExpr 196 54 rfl
  have taTypeAssertExpr := ta_miss ptr_TypeAssertExpr 196 54 rfl
  have taCallExpr := ta_miss ptr_CallExpr 196 54 rfl
  have taStarExpr := ta_miss ptr_StarExpr 196 54 rfl
  have taUnaryExpr := ta_miss ptr_UnaryExpr 196 54 rfl
  have taBinaryExpr := ta_miss ptr_BinaryExpr 196 54 rfl
  have taKeyValueExpr := ta_miss ptr_KeyValueExpr 196 54 rfl
  have taArrayType := ta_miss ptr_ArrayType 196 54 rfl
  have taStructType := ta_miss ptr_StructType 196 54 rfl
  have taFuncType := ta_miss ptr_FuncType 196 54 rfl
  have taInterfaceType := ta_miss ptr_InterfaceType 196 54 rfl
  have taMapType := ta_miss ptr_MapType 196 54 rfl
  have taChanType := ta_miss ptr_ChanType 196 54 rfl
  have taBadStmt := ta_miss ptr_BadStmt 196 54 rfl
  have taDeclStmt := ta_miss ptr_DeclStmt 196 54 rfl
  have taEmptyStmt := ta_miss ptr_EmptyStmt 196 54 rfl
  have taLabeledStmt := ta_miss ptr_LabeledStmt 196 54 rfl
  have taExprStmt := ta_miss ptr_ExprStmt 196 54 rfl
  have taSendStmt := ta_miss ptr_SendStmt 196 54 rfl
  have taIncDecStmt := ta_miss ptr_IncDecStmt 196 54 rfl
  have taAssignStmt := ta_miss ptr_AssignStmt 196 54 rfl
  have taGoStmt := ta_miss ptr_GoStmt 196 54 rfl
  have taDeferStmt := ta_miss ptr_DeferStmt 196 54 rfl
  have taReturnStmt := ta_miss ptr_ReturnStmt 196 54 rfl
  have taBranchStmt := ta_miss ptr_BranchStmt 196 54 rfl
  have taBlockStmt := ta_miss ptr_BlockStmt 196 54 rfl
  have taH := ta_hit ptr_IfStmt 54
  rcases hst : V.step t (some (Ast.ifS p' x' y' z' u').kind) s with ⟨_ | t1, s1⟩
  · rw [hst] at HV
    have HV := hide HV
    go_enter Tryz.func25, Tryz.ntmps25
    go_wp2_with fail
    with_reducible refine Calls.mono HV.out ?_
    rintro e w1 ⟨rfl, hR1⟩
    go_wp2_with fail
    go_returns
    refine ⟨_, rfl, ?_⟩
    rw [HL.out]
    unfold walkX
    rw [show V.step t (some ⟨#[105, 102]⟩) s = (none, s1) from hst]
    exact HG.out.monoN hR1 (by omega)
  · rw [hst] at HV
    have HV := hide HV
    have hm2 := fun n W => hm1 n t1 W
    clear hm1
    go_enter Tryz.func25, Tryz.ntmps25
    go_wp2_with fail
    with_reducible refine Calls.mono HV.out ?_
    rintro e w1 ⟨rfl, hok1, hR1⟩
    have d1 : ∀ j, w1.cell? ⟨ad, j, none⟩ = w0.cell? ⟨ad, j, none⟩ := fun j => (HG.out.mid _ _ _ _ hR1).cell had
    go_upto_region 155 with fail
    rcases x' with _ | x'
    · have ax' := HAxq.out
      rw [AtO_none] at ax'
      subst ax'
      have exq : sizeXs (xtO none) = 0 := rfl
      have Kyq := hide (HKA.out y' (by simp [Ast.kids]) _ ay')
      clear ay'
      go_wp2_with fail
      with_reducible refine Calls.mono (Kyq.out (b + 1 + 2 * (z'.xt.size + sizeXs (xtO u'))) t1 _ w1 (HG.out.okN hok1 (by omega)) (castR hR1 (by omega))) ?_
      rintro e w2 ⟨r2, rfl, hR2⟩
      have d2 : ∀ j, w2.cell? ⟨ad, j, none⟩ = w0.cell? ⟨ad, j, none⟩ := fun j => (HG.out.mid _ _ _ _ hR2).cell had
      have Kzq := hide (HKA.out z' (by simp [Ast.kids]) _ az')
      clear az'
      go_wp2_with fail
      with_reducible refine Calls.mono (Kzq.out (b + 1 + 2 * (sizeXs (xtO u'))) t1 _ w2 (HG.out.okN hok1 (by omega)) (castR hR2 (by omega))) ?_
      rintro e w3 ⟨r3, rfl, hR3⟩
      have d3 : ∀ j, w3.cell? ⟨ad, j, none⟩ = w0.cell? ⟨ad, j, none⟩ := fun j => (HG.out.mid _ _ _ _ hR3).cell had
      go_upto_region 159 with fail
      rcases u' with _ | u'
      · have au' := HAuq.out
        rw [AtO_none] at au'
        subst au'
        have euq : sizeXs (xtO none) = 0 := rfl
        go_wp2_with fail
        with_reducible refine Calls.mono (HG.out.nil b t1 t _ _ _ w3 (congrArg Prod.fst hst) (HG.out.okN hok1 (by omega)) (castR hR3 (by omega))) ?_
        rintro e wz ⟨rz, rfl, hRz⟩
        go_wp2_with fail
        go_returns
        refine ⟨_, rfl, ?_⟩
        rw [HL.out]
        unfold walkX
        rw [show V.step t (some ⟨#[105, 102]⟩) s = (some t1, s1) from hst]
        simpa only [xtO, List.nil_append, walkXs_append, walkXs] using hRz
      · have au' := HAuq.out
        rw [AtO_some] at au'
        obtain ⟨pu', hpu', -⟩ := au'.ptr
        subst hpu'
        have euq : sizeXs (xtO (some u')) = u'.xt.size := by simp [xtO, sizeXs]
        have Kuq := hide (HKA.out u' (by simp [Ast.kids]) _ au')
        clear au'
        go_wp2_with fail
        with_reducible refine Calls.mono (Kuq.out (b + 1 + 2 * (0)) t1 _ w3 (HG.out.okN hok1 (by omega)) (castR hR3 (by omega))) ?_
        rintro e w4 ⟨r4, rfl, hR4⟩
        have d4 : ∀ j, w4.cell? ⟨ad, j, none⟩ = w0.cell? ⟨ad, j, none⟩ := fun j => (HG.out.mid _ _ _ _ hR4).cell had
        go_wp2_with fail
        with_reducible refine Calls.mono (HG.out.nil b t1 t _ _ _ w4 (congrArg Prod.fst hst) (HG.out.okN hok1 (by omega)) (castR hR4 (by omega))) ?_
        rintro e wz ⟨rz, rfl, hRz⟩
        go_wp2_with fail
        go_returns
        refine ⟨_, rfl, ?_⟩
        rw [HL.out]
        unfold walkX
        rw [show V.step t (some ⟨#[105, 102]⟩) s = (some t1, s1) from hst]
        simpa only [xtO, List.nil_append, walkXs_append, walkXs] using hRz
    · have ax' := HAxq.out
      rw [AtO_some] at ax'
      obtain ⟨px', hpx', -⟩ := ax'.ptr
      subst hpx'
      have exq : sizeXs (xtO (some x')) = x'.xt.size := by simp [xtO, sizeXs]
      have Kxq := hide (HKA.out x' (by simp [Ast.kids]) _ ax')
      clear ax'
      go_wp2_with fail
      with_reducible refine Calls.mono (Kxq.out (b + 1 + 2 * (y'.xt.size + z'.xt.size + sizeXs (xtO u'))) t1 _ w1 (HG.out.okN hok1 (by omega)) (castR hR1 (by omega))) ?_
      rintro e w2 ⟨r2, rfl, hR2⟩
      have d2 : ∀ j, w2.cell? ⟨ad, j, none⟩ = w0.cell? ⟨ad, j, none⟩ := fun j => (HG.out.mid _ _ _ _ hR2).cell had
      have Kyq := hide (HKA.out y' (by simp [Ast.kids]) _ ay')
      clear ay'
      go_wp2_with fail
      with_reducible refine Calls.mono (Kyq.out (b + 1 + 2 * (z'.xt.size + sizeXs (xtO u'))) t1 _ w2 (HG.out.okN hok1 (by omega)) (castR hR2 (by omega))) ?_
      rintro e w3 ⟨r3, rfl, hR3⟩
      have d3 : ∀ j, w3.cell? ⟨ad, j, none⟩ = w0.cell? ⟨ad, j, none⟩ := fun j => (HG.out.mid _ _ _ _ hR3).cell had
      have Kzq := hide (HKA.out z' (by simp [Ast.kids]) _ az')
      clear az'
      go_wp2_with fail
      with_reducible refine Calls.mono (Kzq.out (b + 1 + 2 * (sizeXs (xtO u'))) t1 _ w3 (HG.out.okN hok1 (by omega)) (castR hR3 (by omega))) ?_
      rintro e w4 ⟨r4, rfl, hR4⟩
      have d4 : ∀ j, w4.cell? ⟨ad, j, none⟩ = w0.cell? ⟨ad, j, none⟩ := fun j => (HG.out.mid _ _ _ _ hR4).cell had
      go_upto_region 159 with fail
      rcases u' with _ | u'
      · have au' := HAuq.out
        rw [AtO_none] at au'
        subst au'
        have euq : sizeXs (xtO none) = 0 := rfl
        go_wp2_with fail
        with_reducible refine Calls.mono (HG.out.nil b t1 t _ _ _ w4 (congrArg Prod.fst hst) (HG.out.okN hok1 (by omega)) (castR hR4 (by omega))) ?_
        rintro e wz ⟨rz, rfl, hRz⟩
        go_wp2_with fail
        go_returns
        refine ⟨_, rfl, ?_⟩
        rw [HL.out]
        unfold walkX
        rw [show V.step t (some ⟨#[105, 102]⟩) s = (some t1, s1) from hst]
        simpa only [xtO, List.nil_append, walkXs_append, walkXs] using hRz
      · have au' := HAuq.out
        rw [AtO_some] at au'
        obtain ⟨pu', hpu', -⟩ := au'.ptr
        subst hpu'
        have euq : sizeXs (xtO (some u')) = u'.xt.size := by simp [xtO, sizeXs]
        have Kuq := hide (HKA.out u' (by simp [Ast.kids]) _ au')
        clear au'
        go_wp2_with fail
        with_reducible refine Calls.mono (Kuq.out (b + 1 + 2 * (0)) t1 _ w4 (HG.out.okN hok1 (by omega)) (castR hR4 (by omega))) ?_
        rintro e w5 ⟨r5, rfl, hR5⟩
        have d5 : ∀ j, w5.cell? ⟨ad, j, none⟩ = w0.cell? ⟨ad, j, none⟩ := fun j => (HG.out.mid _ _ _ _ hR5).cell had
        go_wp2_with fail
        with_reducible refine Calls.mono (HG.out.nil b t1 t _ _ _ w5 (congrArg Prod.fst hst) (HG.out.okN hok1 (by omega)) (castR hR5 (by omega))) ?_
        rintro e wz ⟨rz, rfl, hRz⟩
        go_wp2_with fail
        go_returns
        refine ⟨_, rfl, ?_⟩
        rw [HL.out]
        unfold walkX
        rw [show V.step t (some ⟨#[105, 102]⟩) s = (some t1, s1) from hst]
        simpa only [xtO, List.nil_append, walkXs_append, walkXs] using hRz

set_option maxRecDepth 100000 in
set_option maxHeartbeats 16000000 in
theorem wk_caseC {V : Vis} {D : Nat → Prop} {w0 : World} {ty fv : Nat} {xv : V.T → Value} {ok : Nat → V.T → Prop} {R : V.T → Nat → V.S → World → Prop} (G : GoodG V D w0 ty fv xv ok R) (p' : Int) (a' : List Ast) (c' : Int) (b' : List Ast) (hg : (Ast.caseC p' a' c' b').good = true) (hK : ∀ k, k ∈ (Ast.caseC p' a' c' b').kids → ∀ v, At D w0 k v → WKG V ty xv ok R k.xt v) {v : Value} (ha : At D w0 (Ast.caseC p' a' c' b') v) : WKG V ty xv ok R (Ast.caseC p' a' c' b').xt v := by
  intro b t s w hok hR
  have hL : (Ast.caseC p' a' c' b').xt = .mk ⟨#[99, 108, 97, 117, 115, 101]⟩ (xtL a' ++ xtL b') := by simp [Ast.xt]
  have e0 : b + 2 * (Ast.caseC p' a' c' b').xt.size = b + 1 + 2 * (sizeXs (xtL a') + sizeXs (xtL b')) + 1 := by rw [hL, XT.size]; (try simp only [sizeXs_append, sizeXs]) <;> omega
  rw [e0] at hok hR
  have HV := G.vis _ t s w _ _ hok hR ha hg
  obtain ⟨ad, rfl, had, va', vb', c0, c1, aa', c2, c3, ab'⟩ := At_caseC.1 ha
  have HL := hide hL
  have HKA := hide hK
  have HG := hide G
  have hcf := G.enters
  have hm0 := fun n W => G.meth n t W
  have hm1 := fun n t W => G.meth n t W
  have HAaq := hide aa'
  have HAbq := hide ab'
  clear hR hok hK ha hL e0 G aa' ab'
  have taComment := ta_miss ptr_Comment 199 54 rfl
  have taCommentGroup := ta_miss ptr_CommentGroup 199 54 rfl
  have taField := ta_miss ptr_Field 199 54 rfl
  have taFieldList := ta_miss ptr_FieldList 199 54 rfl
  have taBadExpr := ta_miss ptr_BadExpr 199 54 rfl
  have taIdent := ta_miss ptr_Ident 199 54 rfl
  have taBasicLit := ta_miss ptr_BasicLit 199 54 rfl
  have taEllipsis := ta_miss ptr_Ellipsis 199 54 rfl
  have taFuncLit := ta_miss ptr_FuncLit 199 54 rfl
  have taCompositeLit := ta_miss ptr_CompositeLit 199 54 rfl
  have taParenExpr := ta_miss ptr_ParenExpr 199 54 rfl
  have taSelectorExpr := ta_miss ptr_SelectorExpr 199 54 rfl
  have taIndexExpr := ta_miss ptr_IndexExpr 199 54 rfl
  have taIndexListExpr := ta_miss ptr_IndexListExpr 199 54 rfl
  have taSliceExpr := ta_miss ptr_SliceExpr 199 54 rfl
  have taTypeAssertExpr := ta_miss ptr_TypeAssertExpr 199 54 rfl
  have taCallExpr := ta_miss ptr_CallExpr 199 54 rfl
  have taStarExpr := ta_miss ptr_StarExpr 199 54 rfl
  have taUnaryExpr := ta_miss ptr_UnaryExpr 199 54 rfl
  have taBinaryExpr := ta_miss ptr_BinaryExpr 199 54 rfl
  have taKeyValueExpr := ta_miss ptr_KeyValueExpr 199 54 rfl
  have taArrayType := ta_miss ptr_ArrayType 199 54 rfl
  have taStructType := ta_miss ptr_StructType 199 54 rfl
  have taFuncType := ta_miss ptr_FuncType 199 54 rfl
  have taInterfaceType := ta_miss ptr_InterfaceType 199 54 rfl
  have taMapType := ta_miss ptr_MapType 199 54 rfl
  have taChanType := ta_miss ptr_ChanType 199 54 rfl
  have taBadStmt := ta_miss ptr_BadStmt 199 54 rfl
  have taDeclStmt := ta_miss ptr_DeclStmt 199 54 rfl
  have taEmptyStmt := ta_miss ptr_EmptyStmt 199 54 rfl
  have taLabeledStmt := ta_miss ptr_LabeledStmt 199 54 rfl
  have taExprStmt := ta_miss ptr_ExprStmt 199 54 rfl
  have taSendStmt := ta_miss ptr_SendStmt 199 54 rfl
  have taIncDecStmt := ta_miss ptr_IncDecStmt 199 54 rfl
  have taAssignStmt := ta_miss ptr_AssignStmt 199 54 rfl
  have taGoStmt := ta_miss ptr_GoStmt 199 54 rfl
  have taDeferStmt := ta_miss ptr_DeferStmt 199 54 rfl
  have taReturnStmt := ta_miss ptr_ReturnStmt 199 54 rfl
  have taBranchStmt := ta_miss ptr_BranchStmt 199 54 rfl
  have taBlockStmt := ta_miss ptr_BlockStmt 199 54 rfl
  have taIfStmt := ta_miss ptr_IfStmt 199 54 rfl
  have taH := ta_hit ptr_CaseClause 54
  rcases hst : V.step t (some (Ast.caseC p' a' c' b').kind) s with ⟨_ | t1, s1⟩
  · rw [hst] at HV
    have HV := hide HV
    go_enter Tryz.func25, Tryz.ntmps25
    go_wp2_with fail
    with_reducible refine Calls.mono HV.out ?_
    rintro e w1 ⟨rfl, hR1⟩
    go_wp2_with fail
    go_returns
    refine ⟨_, rfl, ?_⟩
    rw [HL.out]
    unfold walkX
    rw [show V.step t (some ⟨#[99, 108, 97, 117, 115, 101]⟩) s = (none, s1) from hst]
    exact HG.out.monoN hR1 (by omega)
  · rw [hst] at HV
    have HV := hide HV
    have hm2 := fun n W => hm1 n t1 W
    clear hm1
    go_enter Tryz.func25, Tryz.ntmps25
    go_wp2_with fail
    with_reducible refine Calls.mono HV.out ?_
    rintro e w1 ⟨rfl, hok1, hR1⟩
    have d1 : ∀ j, w1.cell? ⟨ad, j, none⟩ = w0.cell? ⟨ad, j, none⟩ := fun j => (HG.out.mid _ _ _ _ hR1).cell had
    have Kaq := hide (wlEG HG.out a' (by simp [Ast.good] at hg; omega) (fun k hk v hv => HKA.out k (by simp [Ast.kids, hk]) v hv) HAaq.out)
    go_wp2_with fail
    with_reducible refine Calls.mono (Kaq.out (b + 1 + 2 * (sizeXs (xtL b'))) t1 _ w1 (HG.out.okN hok1 (by omega)) (castR hR1 (by omega))) ?_
    rintro e w2 ⟨r2, rfl, hR2⟩
    have d2 : ∀ j, w2.cell? ⟨ad, j, none⟩ = w0.cell? ⟨ad, j, none⟩ := fun j => (HG.out.mid _ _ _ _ hR2).cell had
    have Kbq := hide (wlSG HG.out b' (by simp [Ast.good] at hg; omega) (fun k hk v hv => HKA.out k (by simp [Ast.kids, hk]) v hv) HAbq.out)
    go_wp2_with fail
    with_reducible refine Calls.mono (Kbq.out (b + 1 + 2 * (0)) t1 _ w2 (HG.out.okN hok1 (by omega)) (castR hR2 (by omega))) ?_
    rintro e w3 ⟨r3, rfl, hR3⟩
    have d3 : ∀ j, w3.cell? ⟨ad, j, none⟩ = w0.cell? ⟨ad, j, none⟩ := fun j => (HG.out.mid _ _ _ _ hR3).cell had
    go_wp2_with fail
    with_reducible refine Calls.mono (HG.out.nil b t1 t _ _ _ w3 (congrArg Prod.fst hst) (HG.out.okN hok1 (by omega)) (castR hR3 (by omega))) ?_
    rintro e wz ⟨rz, rfl, hRz⟩
    go_wp2_with fail
    go_returns
    refine ⟨_, rfl, ?_⟩
    rw [HL.out]
    unfold walkX
    rw [show V.step t (some ⟨#[99, 108, 97, 117, 115, 101]⟩) s = (some t1, s1) from hst]
    simpa only [xtO, List.nil_append, walkXs_append, walkXs] using hRz

set_option maxRecDepth 100000 in
set_option maxHeartbeats 16000000 in
theorem wk_switchS {V : Vis} {D : Nat → Prop} {w0 : World} {ty fv : Nat} {xv : V.T → Value} {ok : Nat → V.T → Prop} {R : V.T → Nat → V.S → World → Prop} (G : GoodG V D w0 ty fv xv ok R) (p' : Int) (x' : Option Ast) (y' : Option Ast) (z' : Ast) (hg : (Ast.switchS p' x' y' z').good = true) (hK : ∀ k, k ∈ (Ast.switchS p' x' y' z').kids → ∀ v, At D w0 k v → WKG V ty xv ok R k.xt v) {v : Value} (ha : At D w0 (Ast.switchS p' x' y' z') v) : WKG V ty xv ok R (Ast.switchS p' x' y' z').xt v := by
  intro b t s w hok hR
  have hL : (Ast.switchS p' x' y' z').xt = .mk ⟨#[115, 119, 105, 116, 99, 104]⟩ (xtO x' ++ xtO y' ++ [z'.xt]) := by simp [Ast.xt]
  have e0 : b + 2 * (Ast.switchS p' x' y' z').xt.size = b + 1 + 2 * (sizeXs (xtO x') + sizeXs (xtO y') + z'.xt.size) + 1 := by rw [hL, XT.size]; (try simp only [sizeXs_append, sizeXs]) <;> omega
  rw [e0] at hok hR
  have HV := G.vis _ t s w _ _ hok hR ha hg
  obtain ⟨ad, rfl, had, vx', vy', vz', c0, c1, ax', c2, ay', c3, az'⟩ := At_switchS.1 ha
  have HL := hide hL
  have HKA := hide hK
  have HG := hide G
  have hcf := G.enters
  have hm0 := fun n W => G.meth n t W
  have hm1 := fun n t W => G.meth n t W
  have HAxq := hide ax'
  have HAyq := hide ay'
  clear hR hok hK ha hL e0 G ax' ay'
  have taComment := ta_miss ptr_Comment 202 54 rfl
  have taCommentGroup := ta_miss ptr_CommentGroup 202 54 rfl
  have taField := ta_miss ptr_Field 202 54 rfl
  have taFieldList := ta_miss ptr_FieldList 202 54 rfl
  have taBadExpr := ta_miss ptr_BadExpr 202 54 rfl
  have taIdent := ta_miss ptr_Ident 202 54 rfl
  have taBasicLit := ta_miss ptr_BasicLit 202 54 rfl
  have taEllipsis := ta_miss ptr_Ellipsis 202 54 rfl
  have taFuncLit := ta_miss ptr_FuncLit 202 54 rfl
  have taCompositeLit := ta_miss ptr_CompositeLit 202 54 rfl
  have taParenExpr := ta_miss ptr_ParenExpr 202 54 rfl
  have taSelectorExpr := ta_miss ptr_SelectorExpr 202 54 rfl
  have taIndexExpr := ta_miss ptr_IndexExpr 202 54 rfl
  have taIndexListExpr := ta_miss ptr_IndexListExpr 202 54 rfl
  have taSliceExpr := ta_miss ptr_SliceExpr 202 54 rfl
  have taTypeAssertExpr := ta_miss ptr_TypeAssertExpr 202 54 rfl
  have taCallExpr := ta_miss ptr_CallExpr 202 54 rfl
  have taStarExpr := ta_miss ptr_StarExpr 202 54 rfl
  have taUnaryExpr := ta_miss ptr_UnaryExpr 202 54 rfl
  have taBinaryExpr := ta_miss ptr_BinaryExpr 202 54 rfl
  have taKeyValueExpr := ta_miss ptr_KeyValueExpr 202 54 rfl
  have taArrayType := ta_miss ptr_ArrayType 202 54 rfl
  have taStructType := ta_miss ptr_StructType 202 54 rfl
  have taFuncType := ta_miss ptr_FuncType 202 54 rfl
  have taInterfaceType := ta_miss ptr_InterfaceType 202 54 rfl
  have taMapType := ta_miss ptr_MapType 202 54 rfl
  have taChanType := ta_miss ptr_ChanType 202 54 rfl
  have taBadStmt := ta_miss ptr_BadStmt 202 54 rfl
  have taDeclStmt := ta_miss ptr_DeclStmt 202 54 rfl
  have taEmptyStmt := ta_miss ptr_EmptyStmt 202 54 rfl
  have taLabeledStmt := ta_miss ptr_LabeledStmt 202 54 rfl
  have taExprStmt := ta_miss ptr_ExprStmt 202 54 rfl
  have taSendStmt := ta_miss ptr_SendStmt 202 54 rfl
  have taIncDecStmt := ta_miss ptr_IncDecStmt 202 54 rfl
  have taAssignStmt := ta_miss ptr_AssignStmt 202 54 rfl
  have taGoStmt := ta_miss ptr_GoStmt 202 54 rfl
  have taDeferStmt := ta_miss ptr_DeferStmt 202 54 rfl
  have taReturnStmt := ta_miss ptr_ReturnStmt 202 54 rfl
  have taBranchStmt := ta_miss ptr_BranchStmt 202 54 rfl
  have taBlockStmt := ta_miss ptr_BlockStmt 202 54 rfl
  have taIfStmt := ta_miss ptr_IfStmt 202 54 rfl
  have taCaseClause := ta_miss ptr_CaseClause 202 54 rfl
  have taH := ta_hit ptr_SwitchStmt 54
  rcases hst : V.step t (some (Ast.switchS p' x' y' z').kind) s with ⟨_ | t1, s1⟩
  · rw [hst] at HV
    have HV := hide HV
    go_enter Tryz.func25, Tryz.ntmps25
    go_wp2_with fail
    with_reducible refine Calls.mono HV.out ?_
    rintro e w1 ⟨rfl, hR1⟩
    go_wp2_with fail
    go_returns
    refine ⟨_, rfl, ?_⟩
    rw [HL.out]
    unfold walkX
    rw [show V.step t (some ⟨#[115, 119, 105, 116, 99, 104]⟩) s = (none, s1) from hst]
    exact HG.out.monoN hR1 (by omega)
  · rw [hst] at HV
    have HV := hide HV
    have hm2 := fun n W => hm1 n t1 W
    clear hm1
    go_enter Tryz.func25, Tryz.ntmps25
    go_wp2_with fail
    with_reducible refine Calls.mono HV.out ?_
    rintro e w1 ⟨rfl, hok1, hR1⟩
    have d1 : ∀ j, w1.cell? ⟨ad, j, none⟩ = w0.cell? ⟨ad, j, none⟩ := fun j => (HG.out.mid _ _ _ _ hR1).cell had
    go_upto_region 167 with fail
    rcases x' with _ | x'
    · have ax' := HAxq.out
      rw [AtO_none] at ax'
      subst ax'
      have exq : sizeXs (xtO none) = 0 := rfl
      go_upto_region 169 with fail
      rcases y' with _ | y'
      · have ay' := HAyq.out
        rw [AtO_none] at ay'
        subst ay'
        have eyq : sizeXs (xtO none) = 0 := rfl
        have Kzq := hide (HKA.out z' (by simp [Ast.kids]) _ az')
        clear az'
        go_wp2_with fail
        with_reducible refine Calls.mono (Kzq.out (b + 1 + 2 * (0)) t1 _ w1 (HG.out.okN hok1 (by omega)) (castR hR1 (by omega))) ?_
        rintro e w2 ⟨r2, rfl, hR2⟩
        have d2 : ∀ j, w2.cell? ⟨ad, j, none⟩ = w0.cell? ⟨ad, j, none⟩ := fun j => (HG.out.mid _ _ _ _ hR2).cell had
        go_wp2_with fail
        with_reducible refine Calls.mono (HG.out.nil b t1 t _ _ _ w2 (congrArg Prod.fst hst) (HG.out.okN hok1 (by omega)) (castR hR2 (by omega))) ?_
        rintro e wz ⟨rz, rfl, hRz⟩
        go_wp2_with fail
        go_returns
        refine ⟨_, rfl, ?_⟩
        rw [HL.out]
        unfold walkX
        rw [show V.step t (some ⟨#[115, 119, 105, 116, 99, 104]⟩) s = (some t1, s1) from hst]
        simpa only [xtO, List.nil_append, walkXs_append, walkXs] using hRz
      · have ay' := HAyq.out
        rw [AtO_some] at ay'
        obtain ⟨py', hpy', -⟩ := ay'.ptr
        subst hpy'
        have eyq : sizeXs (xtO (some y')) = y'.xt.size := by simp [xtO, sizeXs]
        have Kyq := hide (HKA.out y' (by simp [Ast.kids]) _ ay')
        clear ay'
        go_wp2_with fail
        with_reducible refine Calls.mono (Kyq.out (b + 1 + 2 * (z'.xt.size)) t1 _ w1 (HG.out.okN hok1 (by omega)) (castR hR1 (by omega))) ?_
        rintro e w2 ⟨r2, rfl, hR2⟩
        have d2 : ∀ j, w2.cell? ⟨ad, j, none⟩ = w0.cell? ⟨ad, j, none⟩ := fun j => (HG.out.mid _ _ _ _ hR2).cell had
        have Kzq := hide (HKA.out z' (by simp [Ast.kids]) _ az')
        clear az'
        go_wp2_with fail
        with_reducible refine Calls.mono (Kzq.out (b + 1 + 2 * (0)) t1 _ w2 (HG.out.okN hok1 (by omega)) (castR hR2 (by omega))) ?_
        rintro e w3 ⟨r3, rfl, hR3⟩
        have d3 : ∀ j, w3.cell? ⟨ad, j, none⟩ = w0.cell? ⟨ad, j, none⟩ := fun j => (HG.out.mid _ _ _ _ hR3).cell had
        go_wp2_with fail
        with_reducible refine Calls.mono (HG.out.nil b t1 t _ _ _ w3 (congrArg Prod.fst hst) (HG.out.okN hok1 (by omega)) (castR hR3 (by omega))) ?_
        rintro e wz ⟨rz, rfl, hRz⟩
        go_wp2_with fail
        go_returns
        refine ⟨_, rfl, ?_⟩
        rw [HL.out]
        unfold walkX
        rw [show V.step t (some ⟨#[115, 119, 105, 116, 99, 104]⟩) s = (some t1, s1) from hst]
        simpa only [xtO, List.nil_append, walkXs_append, walkXs] using hRz
    · have ax' := HAxq.out
      rw [AtO_some] at ax'
      obtain ⟨px', hpx', -⟩ := ax'.ptr
      subst hpx'
      have exq : sizeXs (xtO (some x')) = x'.xt.size := by simp [xtO, sizeXs]
      have Kxq := hide (HKA.out x' (by simp [Ast.kids]) _ ax')
      clear ax'
      go_wp2_with fail
      with_reducible refine Calls.mono (Kxq.out (b + 1 + 2 * (sizeXs (xtO y') + z'.xt.size)) t1 _ w1 (HG.out.okN hok1 (by omega)) (castR hR1 (by omega))) ?_
      rintro e w2 ⟨r2, rfl, hR2⟩
      have d2 : ∀ j, w2.cell? ⟨ad, j, none⟩ = w0.cell? ⟨ad, j, none⟩ := fun j => (HG.out.mid _ _ _ _ hR2).cell had
      go_upto_region 169 with fail
      rcases y' with _ | y'
      · have ay' := HAyq.out
        rw [AtO_none] at ay'
        subst ay'
        have eyq : sizeXs (xtO none) = 0 := rfl
        have Kzq := hide (HKA.out z' (by simp [Ast.kids]) _ az')
        clear az'
        go_wp2_with fail
        with_reducible refine Calls.mono (Kzq.out (b + 1 + 2 * (0)) t1 _ w2 (HG.out.okN hok1 (by omega)) (castR hR2 (by omega))) ?_
        rintro e w3 ⟨r3, rfl, hR3⟩
        have d3 : ∀ j, w3.cell? ⟨ad, j, none⟩ = w0.cell? ⟨ad, j, none⟩ := fun j => (HG.out.mid _ _ _ _ hR3).cell had
        go_wp2_with fail
        with_reducible refine Calls.mono (HG.out.nil b t1 t _ _ _ w3 (congrArg Prod.fst hst) (HG.out.okN hok1 (by omega)) (castR hR3 (by omega))) ?_
        rintro e wz ⟨rz, rfl, hRz⟩
        go_wp2_with fail
        go_returns
        refine ⟨_, rfl, ?_⟩
        rw [HL.out]
        unfold walkX
        rw [show V.step t (some ⟨#[115, 119, 105, 116, 99, 104]⟩) s = (some t1, s1) from hst]
        simpa only [xtO, List.nil_append, walkXs_append, walkXs] using hRz
      · have ay' := HAyq.out
        rw [AtO_some] at ay'
        obtain ⟨py', hpy', -⟩ := ay'.ptr
        subst hpy'
        have eyq : sizeXs (xtO (some y')) = y'.xt.size := by simp [xtO, sizeXs]
        have Kyq := hide (HKA.out y' (by simp [Ast.kids]) _ ay')
        clear ay'
        go_wp2_with fail
        with_reducible refine Calls.mono (Kyq.out (b + 1 + 2 * (z'.xt.size)) t1 _ w2 (HG.out.okN hok1 (by omega)) (castR hR2 (by omega))) ?_
        rintro e w3 ⟨r3, rfl, hR3⟩
        have d3 : ∀ j, w3.cell? ⟨ad, j, none⟩ = w0.cell? ⟨ad, j, none⟩ := fun j => (HG.out.mid _ _ _ _ hR3).cell had
        have Kzq := hide (HKA.out z' (by simp [Ast.kids]) _ az')
        clear az'
        go_wp2_with fail
        with_reducible refine Calls.mono (Kzq.out (b + 1 + 2 * (0)) t1 _ w3 (HG.out.okN hok1 (by omega)) (castR hR3 (by omega))) ?_
        rintro e w4 ⟨r4, rfl, hR4⟩
        have d4 : ∀ j, w4.cell? ⟨ad, j, none⟩ = w0.cell? ⟨ad, j, none⟩ := fun j => (HG.out.mid _ _ _ _ hR4).cell had
        go_wp2_with fail
        with_reducible refine Calls.mono (HG.out.nil b t1 t _ _ _ w4 (congrArg Prod.fst hst) (HG.out.okN hok1 (by omega)) (castR hR4 (by omega))) ?_
        rintro e wz ⟨rz, rfl, hRz⟩
        go_wp2_with fail
        go_returns
        refine ⟨_, rfl, ?_⟩
        rw [HL.out]
        unfold walkX
        rw [show V.step t (some ⟨#[115, 119, 105, 116, 99, 104]⟩) s = (some t1, s1) from hst]
        simpa only [xtO, List.nil_append, walkXs_append, walkXs] using hRz

set_option maxRecDepth 100000 in
set_option maxHeartbeats 16000000 in
theorem wk_typesS {V : Vis} {D : Nat → Prop} {w0 : World} {ty fv : Nat} {xv : V.T → Value} {ok : Nat → V.T → Prop} {R : V.T → Nat → V.S → World → Prop} (G : GoodG V D w0 ty fv xv ok R) (p' : Int) (x' : Option Ast) (y' : Ast) (z' : Ast) (hg : (Ast.typesS p' x' y' z').good = true) (hK : ∀ k, k ∈ (Ast.typesS p' x' y' z').kids → ∀ v, At D w0 k v → WKG V ty xv ok R k.xt v) {v : Value} (ha : At D w0 (Ast.typesS p' x' y' z') v) : WKG V ty xv ok R (Ast.typesS p' x' y' z').xt v := by
  intro b t s w hok hR
  have hL : (Ast.typesS p' x' y' z').xt = .mk ⟨#[116, 121, 112, 101, 115]⟩ (xtO x' ++ [y'.xt] ++ [z'.xt]) := by simp [Ast.xt]
  have e0 : b + 2 * (Ast.typesS p' x' y' z').xt.size = b + 1 + 2 * (sizeXs (xtO x') + y'.xt.size + z'.xt.size) + 1 := by rw [hL, XT.size]; (try simp only [sizeXs_append, sizeXs]) <;> omega
  rw [e0] at hok hR
  have HV := G.vis _ t s w _ _ hok hR ha hg
  obtain ⟨ad, rfl, had, vx', vy', vz', c0, c1, ax', c2, ay', c3, az'⟩ := At_typesS.1 ha
  have HL := hide hL
  have HKA := hide hK
  have HG := hide G
  have hcf := G.enters
  have hm0 := fun n W => G.meth n t W
  have hm1 := fun n t W => G.meth n t W
  have HAxq := hide ax'
  clear hR hok hK ha hL e0 G ax'
  have taComment := ta_miss ptr_Comment 205 54 rfl
  have taCommentGroup := ta_miss ptr_CommentGroup 205 54 rfl
  have taField := ta_miss ptr_Field 205 54 rfl
  have taFieldList := ta_miss ptr_FieldList 205 54 rfl
  have taBadExpr := ta_miss ptr_BadExpr 205 54 rfl
  have taIdent := ta_miss ptr_Ident 205 54 rfl
  have taBasicLit := ta_miss ptr_BasicLit 205 54 rfl
  have taEllipsis := ta_miss ptr_Ellipsis 205 54 rfl
  have taFuncLit := ta_miss ptr_FuncLit 205 54 rfl
  have taCompositeLit := ta_miss ptr_CompositeLit 205 54 rfl
  have taParenExpr := ta_miss ptr_ParenExpr 205 54 rfl
  have taSelectorExpr := ta_miss ptr_SelectorExpr 205 54 rfl
  have taIndexExpr := ta_miss ptr_IndexExpr 205 54 rfl
  have taIndexListExpr := ta_miss ptr_IndexListExpr 205 54 rfl
  have taSliceExpr := ta_miss ptr_SliceExpr 205 54 rfl
  have taTypeAssertExpr := ta_miss ptr_TypeAssertExpr 205 54 rfl
  have taCallExpr := ta_miss ptr_CallExpr 205 54 rfl
  have taStarExpr := ta_miss ptr_StarExpr 205 54 rfl
  have taUnaryExpr := ta_miss ptr_UnaryExpr 205 54 rfl
  have taBinaryExpr := ta_miss ptr_BinaryExpr 205 54 rfl
  have taKeyValueExpr := ta_miss ptr_KeyValueExpr 205 54 rfl
  have taArrayType := ta_miss ptr_ArrayType 205 54 rfl
  have taStructType := ta_miss ptr_StructType 205 54 rfl
  have taFuncType := ta_miss ptr_FuncType 205 54 rfl
  have taInterfaceType := ta_miss ptr_InterfaceType 205 54 rfl
  have taMapType := ta_miss ptr_MapType 205 54 rfl
  have taChanType := ta_miss ptr_ChanType 205 54 rfl
  have taBadStmt := ta_miss ptr_BadStmt 205 54 rfl
  have taDeclStmt := ta_miss ptr_DeclStmt 205 54 rfl
  have taEmptyStmt := ta_miss ptr_EmptyStmt 205 54 rfl
  have taLabeledStmt := ta_miss ptr_LabeledStmt 205 54 rfl
  have taExprStmt := ta_miss ptr_ExprStmt 205 54 rfl
  have taSendStmt := ta_miss ptr_SendStmt 205 54 rfl
  have taIncDecStmt := ta_miss ptr_IncDecStmt 205 54 rfl
  have taAssignStmt := ta_miss ptr_AssignStmt 205 54 rfl
  have taGoStmt := ta_miss ptr_GoStmt 205 54 rfl
  have taDeferStmt := ta_miss ptr_DeferStmt 205 54 rfl
  have taReturnStmt := ta_miss ptr_ReturnStmt 205 54 rfl
  have taBranchStmt := ta_miss ptr_BranchStmt 205 54 rfl
  have taBlockStmt := ta_miss ptr_BlockStmt 205 54 rfl
  have taIfStmt := ta_miss ptr_IfStmt 205 54 rfl
  have taCaseClause := ta_miss ptr_CaseClause 205 54 rfl
  have taSwitchStmt := ta_miss ptr_SwitchStmt 205 54 rfl
  have taH := ta_hit ptr_TypeSwitchStmt 54
  rcases hst : V.step t (some (Ast.typesS p' x' y' z').kind) s with ⟨_ | t1, s1⟩
  · rw [hst] at HV
    have HV := hide HV
    go_enter Tryz.func25, Tryz.ntmps25
    go_wp2_with fail
    with_reducible refine Calls.mono HV.out ?_
    rintro e w1 ⟨rfl, hR1⟩
    go_wp2_with fail
    go_returns
    refine ⟨_, rfl, ?_⟩
    rw [HL.out]
    unfold walkX
    rw [show V.step t (some ⟨#[116, 121, 112, 101, 115]⟩) s = (none, s1) from hst]
    exact HG.out.monoN hR1 (by omega)
  · rw [hst] at HV
    have HV := hide HV
    have hm2 := fun n W => hm1 n t1 W
    clear hm1
    go_enter Tryz.func25, Tryz.ntmps25
    go_wp2_with fail
    with_reducible refine Calls.mono HV.out ?_
    rintro e w1 ⟨rfl, hok1, hR1⟩
    have d1 : ∀ j, w1.cell? ⟨ad, j, none⟩ = w0.cell? ⟨ad, j, none⟩ := fun j => (HG.out.mid _ _ _ _ hR1).cell had
    go_upto_region 174 with fail
    rcases x' with _ | x'
    · have ax' := HAxq.out
      rw [AtO_none] at ax'
      subst ax'
      have exq : sizeXs (xtO none) = 0 := rfl
      have Kyq := hide (HKA.out y' (by simp [Ast.kids]) _ ay')
      clear ay'
      go_wp2_with fail
      with_reducible refine Calls.mono (Kyq.out (b + 1 + 2 * (z'.xt.size)) t1 _ w1 (HG.out.okN hok1 (by omega)) (castR hR1 (by omega))) ?_
      rintro e w2 ⟨r2, rfl, hR2⟩
      have d2 : ∀ j, w2.cell? ⟨ad, j, none⟩ = w0.cell? ⟨ad, j, none⟩ := fun j => (HG.out.mid _ _ _ _ hR2).cell had
      have Kzq := hide (HKA.out z' (by simp [Ast.kids]) _ az')
      clear az'
      go_wp2_with fail
      with_reducible refine Calls.mono (Kzq.out (b + 1 + 2 * (0)) t1 _ w2 (HG.out.okN hok1 (by omega)) (castR hR2 (by omega))) ?_
      rintro e w3 ⟨r3, rfl, hR3⟩
      have d3 : ∀ j, w3.cell? ⟨ad, j, none⟩ = w0.cell? ⟨ad, j, none⟩ := fun j => (HG.out.mid _ _ _ _ hR3).cell had
      go_wp2_with fail
      with_reducible refine Calls.mono (HG.out.nil b t1 t _ _ _ w3 (congrArg Prod.fst hst) (HG.out.okN hok1 (by omega)) (castR hR3 (by omega))) ?_
      rintro e wz ⟨rz, rfl, hRz⟩
      go_wp2_with fail
      go_returns
      refine ⟨_, rfl, ?_⟩
      rw [HL.out]
      unfold walkX
      rw [show V.step t (some ⟨#[116, 121, 112, 101, 115]⟩) s = (some t1, s1) from hst]
      simpa only [xtO, List.nil_append, walkXs_append, walkXs] using hRz
    · have ax' := HAxq.out
      rw [AtO_some] at ax'
      obtain ⟨px', hpx', -⟩ := ax'.ptr
      subst hpx'
      have exq : sizeXs (xtO (some x')) = x'.xt.size := by simp [xtO, sizeXs]
      have Kxq := hide (HKA.out x' (by simp [Ast.kids]) _ ax')
      clear ax'
      go_wp2_with fail
      with_reducible refine Calls.mono (Kxq.out (b + 1 + 2 * (y'.xt.size + z'.xt.size)) t1 _ w1 (HG.out.okN hok1 (by omega)) (castR hR1 (by omega))) ?_
      rintro e w2 ⟨r2, rfl, hR2⟩
      have d2 : ∀ j, w2.cell? ⟨ad, j, none⟩ = w0.cell? ⟨ad, j, none⟩ := fun j => (HG.out.mid _ _ _ _ hR2).cell had
      have Kyq := hide (HKA.out y' (by simp [Ast.kids]) _ ay')
      clear ay'
      go_wp2_with fail
      with_reducible refine Calls.mono (Kyq.out (b + 1 + 2 * (z'.xt.size)) t1 _ w2 (HG.out.okN hok1 (by omega)) (castR hR2 (by omega))) ?_
      rintro e w3 ⟨r3, rfl, hR3⟩
      have d3 : ∀ j, w3.cell? ⟨ad, j, none⟩ = w0.cell? ⟨ad, j, none⟩ := fun j => (HG.out.mid _ _ _ _ hR3).cell had
      have Kzq := hide (HKA.out z' (by simp [Ast.kids]) _ az')
      clear az'
      go_wp2_with fail
      with_reducible refine Calls.mono (Kzq.out (b + 1 + 2 * (0)) t1 _ w3 (HG.out.okN hok1 (by omega)) (castR hR3 (by omega))) ?_
      rintro e w4 ⟨r4, rfl, hR4⟩
      have d4 : ∀ j, w4.cell? ⟨ad, j, none⟩ = w0.cell? ⟨ad, j, none⟩ := fun j => (HG.out.mid _ _ _ _ hR4).cell had
      go_wp2_with fail
      with_reducible refine Calls.mono (HG.out.nil b t1 t _ _ _ w4 (congrArg Prod.fst hst) (HG.out.okN hok1 (by omega)) (castR hR4 (by omega))) ?_
      rintro e wz ⟨rz, rfl, hRz⟩
      go_wp2_with fail
      go_returns
      refine ⟨_, rfl, ?_⟩
      rw [HL.out]
      unfold walkX
      rw [show V.step t (some ⟨#[116, 121, 112, 101, 115]⟩) s = (some t1, s1) from hst]
      simpa only [xtO, List.nil_append, walkXs_append, walkXs] using hRz

set_option maxRecDepth 100000 in
set_option maxHeartbeats 16000000 in
theorem wk_commC {V : Vis} {D : Nat → Prop} {w0 : World} {ty fv : Nat} {xv : V.T → Value} {ok : Nat → V.T → Prop} {R : V.T → Nat → V.S → World → Prop} (G : GoodG V D w0 ty fv xv ok R) (p' : Int) (x' : Option Ast) (c' : Int) (b' : List Ast) (hg : (Ast.commC p' x' c' b').good = true) (hK : ∀ k, k ∈ (Ast.commC p' x' c' b').kids → ∀ v, At D w0 k v → WKG V ty xv ok R k.xt v) {v : Value} (ha : At D w0 (Ast.commC p' x' c' b') v) : WKG V ty xv ok R (Ast.commC p' x' c' b').xt v := by
  intro b t s w hok hR
  have hL : (Ast.commC p' x' c' b').xt = .mk ⟨#[99, 108, 97, 117, 115, 101]⟩ (xtO x' ++ xtL b') := by simp [Ast.xt]
  have e0 : b + 2 * (Ast.commC p' x' c' b').xt.size = b + 1 + 2 * (sizeXs (xtO x') + sizeXs (xtL b')) + 1 := by rw [hL, XT.size]; (try simp only [sizeXs_append, sizeXs]) <;> omega
  rw [e0] at hok hR
  have HV := G.vis _ t s w _ _ hok hR ha hg
  obtain ⟨ad, rfl, had, vx', vb', c0, c1, ax', c2, c3, ab'⟩ := At_commC.1 ha
  have HL := hide hL
  have HKA := hide hK
  have HG := hide G
  have hcf := G.enters
  have hm0 := fun n W => G.meth n t W
  have hm1 := fun n t W => G.meth n t W
  have HAxq := hide ax'
  have HAbq := hide ab'
  clear hR hok hK ha hL e0 G ax' ab'
  have taComment := ta_miss ptr_Comment 208 54 rfl
  have taCommentGroup := ta_miss ptr_CommentGroup 208 54 rfl
  have taField := ta_miss ptr_Field 208 54 rfl
  have taFieldList := ta_miss ptr_FieldList 208 54 rfl
  have taBadExpr := ta_miss ptr_BadExpr 208 54 rfl
  have taIdent := ta_miss ptr_Ident 208 54 rfl
  have taBasicLit := ta_miss ptr_BasicLit 208 54 rfl
  have taEllipsis := ta_miss ptr_Ellipsis 208 54 rfl
  have taFuncLit := ta_miss ptr_FuncLit 208 54 rfl
  have taCompositeLit := ta_miss ptr_CompositeLit 208 54 rfl
  have taParenExpr := ta_miss ptr_ParenExpr 208 54 rfl
  have taSelectorExpr := ta_miss ptr_SelectorExpr 208 54 rfl
  have taIndexExpr := ta_miss ptr_IndexExpr 208 54 rfl
  have taIndexListExpr := ta_miss ptr_IndexListExpr 208 54 rfl
  have taSliceExpr := ta_miss ptr_SliceExpr 208 54 rfl
  have taTypeAssertExpr := ta_miss ptr_TypeAssertExpr 208 54 rfl
  have taCallExpr := ta_miss ptr_CallExpr 208 54 rfl
  have taStarExpr := ta_miss ptr_StarExpr 208 54 rfl
  have taUnaryExpr := ta_miss ptr_UnaryExpr 208 54 rfl
  have taBinaryExpr := ta_miss ptr_BinaryExpr 208 54 rfl
  have taKeyValueExpr := ta_miss ptr_KeyValueExpr 208 54 rfl
  have taArrayType := ta_miss ptr_ArrayType 208 54 rfl
  have taStructType := ta_miss ptr_StructType 208 54 rfl
  have taFuncType := ta_miss ptr_FuncType 208 54 rfl
  have taInterfaceType := ta_miss ptr_InterfaceType 208 54 rfl
  have taMapType := ta_miss ptr_MapType 208 54 rfl
  have taChanType := ta_miss ptr_ChanType 208 54 rfl
  have taBadStmt := ta_miss ptr_BadStmt 208 54 rfl
  have taDeclStmt := ta_miss ptr_DeclStmt 208 54 rfl
  have taEmptyStmt := ta_miss ptr_EmptyStmt 208 54 rfl
  have taLabeledStmt := ta_miss ptr_LabeledStmt 208 54 rfl
  have taExprStmt := ta_miss ptr_ExprStmt 208 54 rfl
  have taSendStmt := ta_miss ptr_SendStmt 208 54 rfl
  have taIncDecStmt := ta_miss ptr_IncDecStmt 208 54 rfl
  have taAssignStmt := ta_miss ptr_AssignStmt 208 54 rfl
  have taGoStmt := ta_miss ptr_GoStmt 208 54 rfl
  have taDeferStmt := ta_miss ptr_DeferStmt 208 54 rfl
  have taReturnStmt := ta_miss ptr_ReturnStmt 208 54 rfl
  have taBranchStmt := ta_miss ptr_BranchStmt 208 54 rfl
  have taBlockStmt := ta_miss ptr_BlockStmt 208 54 rfl
  have taIfStmt := ta_miss ptr_IfStmt 208 54 rfl
  have taCaseClause := ta_miss ptr_CaseClause 208 54 rfl
  have taSwitchStmt := ta_miss ptr_SwitchStmt 208 54 rfl
  have taTypeSwitchStmt := ta_miss ptr_TypeSwitchStmt 208 54 rfl
  have taH := ta_hit ptr_CommClause 54
  rcases hst : V.step t (some (Ast.commC p' x' c' b').kind) s with ⟨_ | t1, s1⟩
  · rw [hst] at HV
    have HV := hide HV
    go_enter Tryz.func25, Tryz.ntmps25
    go_wp2_with fail
    with_reducible refine Calls.mono HV.out ?_
    rintro e w1 ⟨rfl, hR1⟩
    go_wp2_with fail
    go_returns
    refine ⟨_, rfl, ?_⟩
    rw [HL.out]
    unfold walkX
    rw [show V.step t (some ⟨#[99, 108, 97, 117, 115, 101]⟩) s = (none, s1) from hst]
    exact HG.out.monoN hR1 (by omega)
  · rw [hst] at HV
    have HV := hide HV
    have hm2 := fun n W => hm1 n t1 W
    clear hm1
    go_enter Tryz.func25, Tryz.ntmps25
    go_wp2_with fail
    with_reducible refine Calls.mono HV.out ?_
    rintro e w1 ⟨rfl, hok1, hR1⟩
    have d1 : ∀ j, w1.cell? ⟨ad, j, none⟩ = w0.cell? ⟨ad, j, none⟩ := fun j => (HG.out.mid _ _ _ _ hR1).cell had
    go_upto_region 180 with fail
    rcases x' with _ | x'
    · have ax' := HAxq.out
      rw [AtO_none] at ax'
      subst ax'
      have exq : sizeXs (xtO none) = 0 := rfl
      have Kbq := hide (wlSG HG.out b' (by simp [Ast.good] at hg; omega) (fun k hk v hv => HKA.out k (by simp [Ast.kids, hk]) v hv) HAbq.out)
      go_wp2_with fail
      with_reducible refine Calls.mono (Kbq.out (b + 1 + 2 * (0)) t1 _ w1 (HG.out.okN hok1 (by omega)) (castR hR1 (by omega))) ?_
      rintro e w2 ⟨r2, rfl, hR2⟩
      have d2 : ∀ j, w2.cell? ⟨ad, j, none⟩ = w0.cell? ⟨ad, j, none⟩ := fun j => (HG.out.mid _ _ _ _ hR2).cell had
      go_wp2_with fail
      with_reducible refine Calls.mono (HG.out.nil b t1 t _ _ _ w2 (congrArg Prod.fst hst) (HG.out.okN hok1 (by omega)) (castR hR2 (by omega))) ?_
      rintro e wz ⟨rz, rfl, hRz⟩
      go_wp2_with fail
      go_returns
      refine ⟨_, rfl, ?_⟩
      rw [HL.out]
      unfold walkX
      rw [show V.step t (some ⟨#[99, 108, 97, 117, 115, 101]⟩) s = (some t1, s1) from hst]
      simpa only [xtO, List.nil_append, walkXs_append, walkXs] using hRz
    · have ax' := HAxq.out
      rw [AtO_some] at ax'
      obtain ⟨px', hpx', -⟩ := ax'.ptr
      subst hpx'
      have exq : sizeXs (xtO (some x')) = x'.xt.size := by simp [xtO, sizeXs]
      have Kxq := hide (HKA.out x' (by simp [Ast.kids]) _ ax')
      clear ax'
      go_wp2_with fail
      with_reducible refine Calls.mono (Kxq.out (b + 1 + 2 * (sizeXs (xtL b'))) t1 _ w1 (HG.out.okN hok1 (by omega)) (castR hR1 (by omega))) ?_
      rintro e w2 ⟨r2, rfl, hR2⟩
      have d2 : ∀ j, w2.cell? ⟨ad, j, none⟩ = w0.cell? ⟨ad, j, none⟩ := fun j => (HG.out.mid _ _ _ _ hR2).cell had
      have Kbq := hide (wlSG HG.out b' (by simp [Ast.good] at hg; omega) (fun k hk v hv => HKA.out k (by simp [Ast.kids, hk]) v hv) HAbq.out)
      go_wp2_with fail
      with_reducible refine Calls.mono (Kbq.out (b + 1 + 2 * (0)) t1 _ w2 (HG.out.okN hok1 (by omega)) (castR hR2 (by omega))) ?_
      rintro e w3 ⟨r3, rfl, hR3⟩
      have d3 : ∀ j, w3.cell? ⟨ad, j, none⟩ = w0.cell? ⟨ad, j, none⟩ := fun j => (HG.out.mid _ _ _ _ hR3).cell had
      go_wp2_with fail
      with_reducible refine Calls.mono (HG.out.nil b t1 t _ _ _ w3 (congrArg Prod.fst hst) (HG.out.okN hok1 (by omega)) (castR hR3 (by omega))) ?_
      rintro e wz ⟨rz, rfl, hRz⟩
      go_wp2_with fail
      go_returns
      refine ⟨_, rfl, ?_⟩
      rw [HL.out]
      unfold walkX
      rw [show V.step t (some ⟨#[99, 108, 97, 117, 115, 101]⟩) s = (some t1, s1) from hst]
      simpa only [xtO, List.nil_append, walkXs_append, walkXs] using hRz

set_option maxRecDepth 100000 in
set_option maxHeartbeats 16000000 in
theorem wk_selectS {V : Vis} {D : Nat → Prop} {w0 : World} {ty fv : Nat} {xv : V.T → Value} {ok : Nat → V.T → Prop} {R : V.T → Nat → V.S → World → Prop} (G : GoodG V D w0 ty fv xv ok R) (p' : Int) (z' : Ast) (hg : (Ast.selectS p' z').good = true) (hK : ∀ k, k ∈ (Ast.selectS p' z').kids → ∀ v, At D w0 k v → WKG V ty xv ok R k.xt v) {v : Value} (ha : At D w0 (Ast.selectS p' z') v) : WKG V ty xv ok R (Ast.selectS p' z').xt v := by
  intro b t s w hok hR
  have hL : (Ast.selectS p' z').xt = .mk ⟨#[115, 101, 108, 101, 99, 116, 115]⟩ ([z'.xt]) := by simp [Ast.xt]
  have e0 : b + 2 * (Ast.selectS p' z').xt.size = b + 1 + 2 * (z'.xt.size) + 1 := by rw [hL, XT.size]; (try simp only [sizeXs_append, sizeXs]) <;> omega
  rw [e0] at hok hR
  have HV := G.vis _ t s w _ _ hok hR ha hg
  obtain ⟨ad, rfl, had, vz', c0, c1, az'⟩ := At_selectS.1 ha
  have HL := hide hL
  have HKA := hide hK
  have HG := hide G
  have hcf := G.enters
  have hm0 := fun n W => G.meth n t W
  have hm1 := fun n t W => G.meth n t W
  clear hR hok hK ha hL e0 G
  have taComment := ta_miss ptr_Comment 211 54 rfl
  have taCommentGroup := ta_miss ptr_CommentGroup 211 54 rfl
  have taField := ta_miss ptr_Field 211 54 rfl
  have taFieldList := ta_miss ptr_FieldList 211 54 rfl
  have taBadExpr := ta_miss ptr_BadExpr 211 54 rfl
  have taIdent := ta_miss ptr_Ident 211 54 rfl
  have taBasicLit := ta_miss ptr_BasicLit 211 54 rfl
  have taEllipsis := ta_miss ptr_Ellipsis 211 54 rfl
  have taFuncLit := ta_miss ptr_FuncLit 211 54 rfl
  have taCompositeLit := ta_miss ptr_CompositeLit 211 54 rfl
  have taParenExpr := ta_miss ptr_ParenExpr 211 54 rfl
  have taSelectorExpr := ta_miss ptr_SelectorExpr 211 54 rfl
  have taIndexExpr := ta_miss ptr_IndexExpr 211 54 rfl
  have taIndexListExpr := ta_miss ptr_IndexListExpr 211 54 rfl
  have taSliceExpr := ta_miss ptr_SliceExpr 211 54 rfl
  have taTypeAssertExpr := ta_miss ptr_TypeAssertExpr 211 54 rfl
  have taCallExpr := ta_miss ptr_CallExpr 211 54 rfl
  have taStarExpr := ta_miss ptr_StarExpr 211 54 rfl
  have taUnaryExpr := ta_miss ptr_UnaryExpr 211 54 rfl
  have taBinaryExpr := ta_miss ptr_BinaryExpr 211 54 rfl
  have taKeyValueExpr := ta_miss ptr_KeyValueExpr 211 54 rfl
  have taArrayType := ta_miss ptr_ArrayType 211 54 rfl
  have taStructType := ta_miss ptr_StructType 211 54 rfl
  have taFuncType := ta_miss ptr_FuncType 211 54 rfl
  have taInterfaceType := ta_miss ptr_InterfaceType 211 54 rfl
  have taMapType := ta_miss ptr_MapType 211 54 rfl
  have taChanType := ta_miss ptr_ChanType 211 54 rfl
  have taBadStmt := ta_miss ptr_BadStmt 211 54 rfl
  have taDeclStmt := ta_miss ptr_DeclStmt 211 54 rfl
  have taEmptyStmt := ta_miss ptr_EmptyStmt 211 54 rfl
  have taLabeledStmt := ta_miss ptr_LabeledStmt 211 54 rfl
  have taExprStmt := ta_miss ptr_ExprStmt 211 54 rfl
  have taSendStmt := ta_miss ptr_SendStmt 211 54 rfl
  have taIncDecStmt := ta_miss ptr_IncDecStmt 211 54 rfl
  have taAssignStmt := ta_miss ptr_AssignStmt 211 54 rfl
  have taGoStmt := ta_miss ptr_GoStmt 211 54 rfl
  have taDeferStmt := ta_miss ptr_DeferStmt 211 54 rfl
  have taReturnStmt := ta_miss ptr_ReturnStmt 211 54 rfl
  have taBranchStmt := ta_miss ptr_BranchStmt 211 54 rfl
  have taBlockStmt := ta_miss ptr_BlockStmt 211 54 rfl
  have taIfStmt := ta_miss ptr_IfStmt 211 54 rfl
  have taCaseClause := ta_miss ptr_CaseClause 211 54 rfl
  have taSwitchStmt := ta_miss ptr_SwitchStmt 211 54 rfl
  have taTypeSwitchStmt := ta_miss ptr_TypeSwitchStmt 211 54 rfl
  have taCommClause := ta_miss ptr_CommClause 211 54 rfl
  have taH := ta_hit ptr_SelectStmt 54
  rcases hst : V.step t (some (Ast.selectS p' z').kind) s with ⟨_ | t1, s1⟩
  · rw [hst] at HV
    have HV := hide HV
    go_enter Tryz.func25, Tryz.ntmps25
    go_wp2_with fail
    with_reducible refine Calls.mono HV.out ?_
    rintro e w1 ⟨rfl, hR1⟩
    go_wp2_with fail
    go_returns
    refine ⟨_, rfl, ?_⟩
    rw [HL.out]
    unfold walkX
    rw [show V.step t (some ⟨#[115, 101, 108, 101, 99, 116, 115]⟩) s = (none, s1) from hst]
    exact HG.out.monoN hR1 (by omega)
  · rw [hst] at HV
    have HV := hide HV
    have hm2 := fun n W => hm1 n t1 W
    clear hm1
    go_enter Tryz.func25, Tryz.ntmps25
    go_wp2_with fail
    with_reducible refine Calls.mono HV.out ?_
    rintro e w1 ⟨rfl, hok1, hR1⟩
    have d1 : ∀ j, w1.cell? ⟨ad, j, none⟩ = w0.cell? ⟨ad, j, none⟩ := fun j => (HG.out.mid _ _ _ _ hR1).cell had
    have Kzq := hide (HKA.out z' (by simp [Ast.kids]) _ az')
    clear az'
    go_wp2_with fail
    with_reducible refine Calls.mono (Kzq.out (b + 1 + 2 * (0)) t1 _ w1 (HG.out.okN hok1 (by omega)) (castR hR1 (by omega))) ?_
    rintro e w2 ⟨r2, rfl, hR2⟩
    have d2 : ∀ j, w2.cell? ⟨ad, j, none⟩ = w0.cell? ⟨ad, j, none⟩ := fun j => (HG.out.mid _ _ _ _ hR2).cell had
    go_wp2_with fail
    with_reducible refine Calls.mono (HG.out.nil b t1 t _ _ _ w2 (congrArg Prod.fst hst) (HG.out.okN hok1 (by omega)) (castR hR2 (by omega))) ?_
    rintro e wz ⟨rz, rfl, hRz⟩
    go_wp2_with fail
    go_returns
    refine ⟨_, rfl, ?_⟩
    rw [HL.out]
    unfold walkX
    rw [show V.step t (some ⟨#[115, 101, 108, 101, 99, 116, 115]⟩) s = (some t1, s1) from hst]
    simpa only [xtO, List.nil_append, walkXs_append, walkXs] using hRz

end Go.Proofs.YtkkgfgllfbahlaaGreatFmt
