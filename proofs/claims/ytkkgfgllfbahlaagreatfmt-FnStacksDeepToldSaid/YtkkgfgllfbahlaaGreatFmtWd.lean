/- ast.Walk at some kinds of nodes (printed by gen_wg.py).
ast.Walk at every good node (printed by gen_wg.py). -/
import Derived.Test.YtkkgfgllfbahlaaGreatFmtWl
import Derived.Test.YtkkgfgllfbahlaaGreatFmtWb
import Derived.Test.YtkkgfgllfbahlaaGreatFmtWc
import Derived.Test.YtkkgfgllfbahlaaGreatFmtCvA
set_option linter.unusedVariables false
set_option linter.unusedSimpArgs false
namespace Go.Proofs.YtkkgfgllfbahlaaGreatFmt
open Go Go.RowKit
set_option linter.unusedSimpArgs false

set_option maxRecDepth 100000 in
set_option maxHeartbeats 16000000 in
theorem wk_forS {V : Vis} {D : Nat → Prop} {w0 : World} {ty fv : Nat} {xv : V.T → Value} {ok : Nat → V.T → Prop} {R : V.T → Nat → V.S → World → Prop} (G : GoodG V D w0 ty fv xv ok R) (p' : Int) (x' : Option Ast) (y' : Option Ast) (z' : Option Ast) (u' : Ast) (hg : (Ast.forS p' x' y' z' u').good = true) (hK : ∀ k, k ∈ (Ast.forS p' x' y' z' u').kids → ∀ v, At D w0 k v → WKG V ty xv ok R k.xt v) {v : Value} (ha : At D w0 (Ast.forS p' x' y' z' u') v) : WKG V ty xv ok R (Ast.forS p' x' y' z' u').xt v := by
  intro b t s w hok hR
  have hL : (Ast.forS p' x' y' z' u').xt = .mk ⟨#[102, 111, 114]⟩ (xtO x' ++ xtO y' ++ xtO z' ++ [u'.xt]) := by simp [Ast.xt]
  have e0 : b + 2 * (Ast.forS p' x' y' z' u').xt.size = b + 1 + 2 * (sizeXs (xtO x') + sizeXs (xtO y') + sizeXs (xtO z') + u'.xt.size) + 1 := by rw [hL, XT.size]; (try simp only [sizeXs_append, sizeXs]) <;> omega
  rw [e0] at hok hR
  have HV := G.vis _ t s w _ _ hok hR ha hg
  obtain ⟨ad, rfl, had, vx', vy', vz', vu', c0, c1, ax', c2, ay', c3, az', c4, au'⟩ := At_forS.1 ha
  have HL := hide hL
  have HKA := hide hK
  have HG := hide G
  have hcf := G.enters
  have hm0 := fun n W => G.meth n t W
  have hm1 := fun n t W => G.meth n t W
  have HAxq := hide ax'
  have HAyq := hide ay'
  have HAzq := hide az'
  clear hR hok hK ha hL e0 G ax' ay' az'
  have taComment := ta_miss ptr_Comment 214 54 rfl
  have taCommentGroup := ta_miss ptr_CommentGroup 214 54 rfl
  have taField := ta_miss ptr_Field 214 54 rfl
  have taFieldList := ta_miss ptr_FieldList 214 54 rfl
  have taBadExpr := ta_miss ptr_BadExpr 214 54 rfl
  have taIdent := ta_miss ptr_Ident 214 54 rfl
  have taBasicLit := ta_miss ptr_BasicLit 214 54 rfl
  have taEllipsis := ta_miss ptr_Ellipsis 214 54 rfl
  have taFuncLit := ta_miss ptr_FuncLit 214 54 rfl
  have taCompositeLit := ta_miss ptr_CompositeLit 214 54 rfl
  have taParenExpr := ta_miss ptr_ParenExpr 214 54 rfl
  have taSelectorExpr := ta_miss ptr_SelectorExpr 214 54 rfl
  have taIndexExpr := ta_miss ptr_IndexExpr 214 54 rfl
  have taIndexListExpr := ta_miss ptr_IndexListExpr 214 54 rfl
  have taSliceExpr := ta_miss ptr_SliceExpr 214 54 rfl
  have taTypeAssertExpr := ta_miss ptr_TypeAssertExpr 214 54 rfl
  have taCallExpr := ta_miss ptr_CallExpr 214 54 rfl
  have taStarExpr := ta_miss ptr_StarExpr 214 54 rfl
  have taUnaryExpr := ta_miss ptr_UnaryExpr 214 54 rfl
  have taBinaryExpr := ta_miss ptr_BinaryExpr 214 54 rfl
  have taKeyValueExpr := ta_miss ptr_KeyValueExpr 214 54 rfl
  have taArrayType := ta_miss ptr_ArrayType 214 54 rfl
  have taStructType := ta_miss ptr_StructType 214 54 rfl
  have taFuncType := ta_miss ptr_FuncType 214 54 rfl
  have taInterfaceType := ta_miss ptr_InterfaceType 214 54 rfl
  have taMapType := ta_miss ptr_MapType 214 54 rfl
  have taChanType := ta_miss ptr_ChanType 214 54 rfl
  have taBadStmt := ta_miss ptr_BadStmt 214 54 rfl
  have taDeclStmt := ta_miss ptr_DeclStmt 214 54 rfl
  have taEmptyStmt := ta_miss ptr_EmptyStmt 214 54 rfl
  have taLabeledStmt := ta_miss ptr_LabeledStmt 214 54 rfl
  have taExprStmt := ta_miss ptr_ExprStmt 214 54 rfl
  have taSendStmt := ta_miss ptr_SendStmt 214 54 rfl
  have taIncDecStmt := ta_miss ptr_IncDecStmt 214 54 rfl
  have taAssignStmt := ta_miss ptr_AssignStmt 214 54 rfl
  have taGoStmt := ta_miss ptr_GoStmt 214 54 rfl
  have taDeferStmt := ta_miss ptr_DeferStmt 214 54 rfl
  have taReturnStmt := ta_miss ptr_ReturnStmt 214 54 rfl
  have taBranchStmt := ta_miss ptr_BranchStmt 214 54 rfl
  have taBlockStmt := ta_miss ptr_BlockStmt 214 54 rfl
  have taIfStmt := ta_miss ptr_IfStmt 214 54 rfl
  have taCaseClause := ta_miss ptr_CaseClause 214 54 rfl
  have taSwitchStmt := ta_miss ptr_SwitchStmt 214 54 rfl
  have taTypeSwitchStmt := ta_miss ptr_TypeSwitchStmt 214 54 rfl
  have taCommClause := ta_miss ptr_CommClause 214 54 rfl
  have taSelectStmt := ta_miss ptr_SelectStmt 214 54 rfl
  have taH := ta_hit ptr_ForStmt 54
  rcases hst : V.step t (some (Ast.forS p' x' y' z' u').kind) s with ⟨_ | t1, s1⟩
  · rw [hst] at HV
    have HV := hide HV
    go_enter Tryz.func25, Tryz.ntmps25
    go_wp2_with fail
    with_reducible refine Calls.mono HV.out ?_
    rintro e w1 ⟨rfl, hR1⟩
    go_wp2_with fail
    go_returns
    refine ⟨_, rfl, ?_⟩
    rw [HL.out]
    unfold walkX
    rw [show V.step t (some ⟨#[102, 111, 114]⟩) s = (none, s1) from hst]
    exact HG.out.monoN hR1 (by omega)
  · rw [hst] at HV
    have HV := hide HV
    have hm2 := fun n W => hm1 n t1 W
    clear hm1
    go_enter Tryz.func25, Tryz.ntmps25
    go_wp2_with fail
    with_reducible refine Calls.mono HV.out ?_
    rintro e w1 ⟨rfl, hok1, hR1⟩
    have d1 : ∀ j, w1.cell? ⟨ad, j, none⟩ = w0.cell? ⟨ad, j, none⟩ := fun j => (HG.out.mid _ _ _ _ hR1).cell had
    go_upto_region 188 with fail
    rcases x' with _ | x'
    · have ax' := HAxq.out
      rw [AtO_none] at ax'
      subst ax'
      have exq : sizeXs (xtO none) = 0 := rfl
      go_upto_region 190 with fail
      rcases y' with _ | y'
      · have ay' := HAyq.out
        rw [AtO_none] at ay'
        subst ay'
        have eyq : sizeXs (xtO none) = 0 := rfl
        go_upto_region 192 with fail
        rcases z' with _ | z'
        · have az' := HAzq.out
          rw [AtO_none] at az'
          subst az'
          have ezq : sizeXs (xtO none) = 0 := rfl
          have Kuq := hide (HKA.out u' (by simp [Ast.kids]) _ au')
          clear au'
          go_wp2_with fail
          with_reducible refine Calls.mono (Kuq.out (b + 1 + 2 * (0)) t1 _ w1 (HG.out.okN hok1 (by omega)) (castR hR1 (by omega))) ?_
          rintro e w2 ⟨r2, rfl, hR2⟩
          have d2 : ∀ j, w2.cell? ⟨ad, j, none⟩ = w0.cell? ⟨ad, j, none⟩ := fun j => (HG.out.mid _ _ _ _ hR2).cell had
          go_wp2_with fail
          with_reducible refine Calls.mono (HG.out.nil b t1 t _ _ _ w2 (congrArg Prod.fst hst) (HG.out.okN hok1 (by omega)) (castR hR2 (by omega))) ?_
          rintro e wz ⟨rz, rfl, hRz⟩
          go_wp2_with fail
          go_returns
          refine ⟨_, rfl, ?_⟩
          rw [HL.out]
          unfold walkX
          rw [show V.step t (some ⟨#[102, 111, 114]⟩) s = (some t1, s1) from hst]
          simpa only [xtO, List.nil_append, walkXs_append, walkXs] using hRz
        · have az' := HAzq.out
          rw [AtO_some] at az'
          obtain ⟨pz', hpz', -⟩ := az'.ptr
          subst hpz'
          have ezq : sizeXs (xtO (some z')) = z'.xt.size := by simp [xtO, sizeXs]
          have Kzq := hide (HKA.out z' (by simp [Ast.kids]) _ az')
          clear az'
          go_wp2_with fail
          with_reducible refine Calls.mono (Kzq.out (b + 1 + 2 * (u'.xt.size)) t1 _ w1 (HG.out.okN hok1 (by omega)) (castR hR1 (by omega))) ?_
          rintro e w2 ⟨r2, rfl, hR2⟩
          have d2 : ∀ j, w2.cell? ⟨ad, j, none⟩ = w0.cell? ⟨ad, j, none⟩ := fun j => (HG.out.mid _ _ _ _ hR2).cell had
          have Kuq := hide (HKA.out u' (by simp [Ast.kids]) _ au')
          clear au'
          go_wp2_with fail
          with_reducible refine Calls.mono (Kuq.out (b + 1 + 2 * (0)) t1 _ w2 (HG.out.okN hok1 (by omega)) (castR hR2 (by omega))) ?_
          rintro e w3 ⟨r3, rfl, hR3⟩
          have d3 : ∀ j, w3.cell? ⟨ad, j, none⟩ = w0.cell? ⟨ad, j, none⟩ := fun j => (HG.out.mid _ _ _ _ hR3).cell had
          go_wp2_with fail
          with_reducible refine Calls.mono (HG.out.nil b t1 t _ _ _ w3 (congrArg Prod.fst hst) (HG.out.okN hok1 (by omega)) (castR hR3 (by omega))) ?_
          rintro e wz ⟨rz, rfl, hRz⟩
          go_wp2_with fail
          go_returns
          refine ⟨_, rfl, ?_⟩
          rw [HL.out]
          unfold walkX
          rw [show V.step t (some ⟨#[102, 111, 114]⟩) s = (some t1, s1) from hst]
          simpa only [xtO, List.nil_append, walkXs_append, walkXs] using hRz
      · have ay' := HAyq.out
        rw [AtO_some] at ay'
        obtain ⟨py', hpy', -⟩ := ay'.ptr
        subst hpy'
        have eyq : sizeXs (xtO (some y')) = y'.xt.size := by simp [xtO, sizeXs]
        have Kyq := hide (HKA.out y' (by simp [Ast.kids]) _ ay')
        clear ay'
        go_wp2_with fail
        with_reducible refine Calls.mono (Kyq.out (b + 1 + 2 * (sizeXs (xtO z') + u'.xt.size)) t1 _ w1 (HG.out.okN hok1 (by omega)) (castR hR1 (by omega))) ?_
        rintro e w2 ⟨r2, rfl, hR2⟩
        have d2 : ∀ j, w2.cell? ⟨ad, j, none⟩ = w0.cell? ⟨ad, j, none⟩ := fun j => (HG.out.mid _ _ _ _ hR2).cell had
        go_upto_region 192 with fail
        rcases z' with _ | z'
        · have az' := HAzq.out
          rw [AtO_none] at az'
          subst az'
          have ezq : sizeXs (xtO none) = 0 := rfl
          have Kuq := hide (HKA.out u' (by simp [Ast.kids]) _ au')
          clear au'
          go_wp2_with fail
          with_reducible refine Calls.mono (Kuq.out (b + 1 + 2 * (0)) t1 _ w2 (HG.out.okN hok1 (by omega)) (castR hR2 (by omega))) ?_
          rintro e w3 ⟨r3, rfl, hR3⟩
          have d3 : ∀ j, w3.cell? ⟨ad, j, none⟩ = w0.cell? ⟨ad, j, none⟩ := fun j => (HG.out.mid _ _ _ _ hR3).cell had
          go_wp2_with fail
          with_reducible refine Calls.mono (HG.out.nil b t1 t _ _ _ w3 (congrArg Prod.fst hst) (HG.out.okN hok1 (by omega)) (castR hR3 (by omega))) ?_
          rintro e wz ⟨rz, rfl, hRz⟩
          go_wp2_with fail
          go_returns
          refine ⟨_, rfl, ?_⟩
          rw [HL.out]
          unfold walkX
          rw [show V.step t (some ⟨#[102, 111, 114]⟩) s = (some t1, s1) from hst]
          simpa only [xtO, List.nil_append, walkXs_append, walkXs] using hRz
        · have az' := HAzq.out
          rw [AtO_some] at az'
          obtain ⟨pz', hpz', -⟩ := az'.ptr
          subst hpz'
          have ezq : sizeXs (xtO (some z')) = z'.xt.size := by simp [xtO, sizeXs]
          have Kzq := hide (HKA.out z' (by simp [Ast.kids]) _ az')
          clear az'
          go_wp2_with fail
          with_reducible refine Calls.mono (Kzq.out (b + 1 + 2 * (u'.xt.size)) t1 _ w2 (HG.out.okN hok1 (by omega)) (castR hR2 (by omega))) ?_
          rintro e w3 ⟨r3, rfl, hR3⟩
          have d3 : ∀ j, w3.cell? ⟨ad, j, none⟩ = w0.cell? ⟨ad, j, none⟩ := fun j => (HG.out.mid _ _ _ _ hR3).cell had
          have Kuq := hide (HKA.out u' (by simp [Ast.kids]) _ au')
          clear au'
          go_wp2_with fail
          with_reducible refine Calls.mono (Kuq.out (b + 1 + 2 * (0)) t1 _ w3 (HG.out.okN hok1 (by omega)) (castR hR3 (by omega))) ?_
          rintro e w4 ⟨r4, rfl, hR4⟩
          have d4 : ∀ j, w4.cell? ⟨ad, j, none⟩ = w0.cell? ⟨ad, j, none⟩ := fun j => (HG.out.mid _ _ _ _ hR4).cell had
          go_wp2_with fail
          with_reducible refine Calls.mono (HG.out.nil b t1 t _ _ _ w4 (congrArg Prod.fst hst) (HG.out.okN hok1 (by omega)) (castR hR4 (by omega))) ?_
          rintro e wz ⟨rz, rfl, hRz⟩
          go_wp2_with fail
          go_returns
          refine ⟨_, rfl, ?_⟩
          rw [HL.out]
          unfold walkX
          rw [show V.step t (some ⟨#[102, 111, 114]⟩) s = (some t1, s1) from hst]
          simpa only [xtO, List.nil_append, walkXs_append, walkXs] using hRz
    · have ax' := HAxq.out
      rw [AtO_some] at ax'
      obtain ⟨px', hpx', -⟩ := ax'.ptr
      subst hpx'
      have exq : sizeXs (xtO (some x')) = x'.xt.size := by simp [xtO, sizeXs]
      have Kxq := hide (HKA.out x' (by simp [Ast.kids]) _ ax')
      clear ax'
      go_wp2_with fail
      with_reducible refine Calls.mono (Kxq.out (b + 1 + 2 * (sizeXs (xtO y') + sizeXs (xtO z') + u'.xt.size)) t1 _ w1 (HG.out.okN hok1 (by omega)) (castR hR1 (by omega))) ?_
      rintro e w2 ⟨r2, rfl, hR2⟩
      have d2 : ∀ j, w2.cell? ⟨ad, j, none⟩ = w0.cell? ⟨ad, j, none⟩ := fun j => (HG.out.mid _ _ _ _ hR2).cell had
      go_upto_region 190 with fail
      rcases y' with _ | y'
      · have ay' := HAyq.out
        rw [AtO_none] at ay'
        subst ay'
        have eyq : sizeXs (xtO none) = 0 := rfl
        go_upto_region 192 with fail
        rcases z' with _ | z'
        · have az' := HAzq.out
          rw [AtO_none] at az'
          subst az'
          have ezq : sizeXs (xtO none) = 0 := rfl
          have Kuq := hide (HKA.out u' (by simp [Ast.kids]) _ au')
          clear au'
          go_wp2_with fail
          with_reducible refine Calls.mono (Kuq.out (b + 1 + 2 * (0)) t1 _ w2 (HG.out.okN hok1 (by omega)) (castR hR2 (by omega))) ?_
          rintro e w3 ⟨r3, rfl, hR3⟩
          have d3 : ∀ j, w3.cell? ⟨ad, j, none⟩ = w0.cell? ⟨ad, j, none⟩ := fun j => (HG.out.mid _ _ _ _ hR3).cell had
          go_wp2_with fail
          with_reducible refine Calls.mono (HG.out.nil b t1 t _ _ _ w3 (congrArg Prod.fst hst) (HG.out.okN hok1 (by omega)) (castR hR3 (by omega))) ?_
          rintro e wz ⟨rz, rfl, hRz⟩
          go_wp2_with fail
          go_returns
          refine ⟨_, rfl, ?_⟩
          rw [HL.out]
          unfold walkX
          rw [show V.step t (some ⟨#[102, 111, 114]⟩) s = (some t1, s1) from hst]
          simpa only [xtO, List.nil_append, walkXs_append, walkXs] using hRz
        · have az' := HAzq.out
          rw [AtO_some] at az'
          obtain ⟨pz', hpz', -⟩ := az'.ptr
          subst hpz'
          have ezq : sizeXs (xtO (some z')) = z'.xt.size := by simp [xtO, sizeXs]
          have Kzq := hide (HKA.out z' (by simp [Ast.kids]) _ az')
          clear az'
          go_wp2_with fail
          with_reducible refine Calls.mono (Kzq.out (b + 1 + 2 * (u'.xt.size)) t1 _ w2 (HG.out.okN hok1 (by omega)) (castR hR2 (by omega))) ?_
          rintro e w3 ⟨r3, rfl, hR3⟩
          have d3 : ∀ j, w3.cell? ⟨ad, j, none⟩ = w0.cell? ⟨ad, j, none⟩ := fun j => (HG.out.mid _ _ _ _ hR3).cell had
          have Kuq := hide (HKA.out u' (by simp [Ast.kids]) _ au')
          clear au'
          go_wp2_with fail
          with_reducible refine Calls.mono (Kuq.out (b + 1 + 2 * (0)) t1 _ w3 (HG.out.okN hok1 (by omega)) (castR hR3 (by omega))) ?_
          rintro e w4 ⟨r4, rfl, hR4⟩
          have d4 : ∀ j, w4.cell? ⟨ad, j, none⟩ = w0.cell? ⟨ad, j, none⟩ := fun j => (HG.out.mid _ _ _ _ hR4).cell had
          go_wp2_with fail
          with_reducible refine Calls.mono (HG.out.nil b t1 t _ _ _ w4 (congrArg Prod.fst hst) (HG.out.okN hok1 (by omega)) (castR hR4 (by omega))) ?_
          rintro e wz ⟨rz, rfl, hRz⟩
          go_wp2_with fail
          go_returns
          refine ⟨_, rfl, ?_⟩
          rw [HL.out]
          unfold walkX
          rw [show V.step t (some ⟨#[102, 111, 114]⟩) s = (some t1, s1) from hst]
          simpa only [xtO, List.nil_append, walkXs_append, walkXs] using hRz
      · have ay' := HAyq.out
        rw [AtO_some] at ay'
        obtain ⟨py', hpy', -⟩ := ay'.ptr
        subst hpy'
        have eyq : sizeXs (xtO (some y')) = y'.xt.size := by simp [xtO, sizeXs]
        have Kyq := hide (HKA.out y' (by simp [Ast.kids]) _ ay')
        clear ay'
        go_wp2_with fail
        with_reducible refine Calls.mono (Kyq.out (b + 1 + 2 * (sizeXs (xtO z') + u'.xt.size)) t1 _ w2 (HG.out.okN hok1 (by omega)) (castR hR2 (by omega))) ?_
        rintro e w3 ⟨r3, rfl, hR3⟩
        have d3 : ∀ j, w3.cell? ⟨ad, j, none⟩ = w0.cell? ⟨ad, j, none⟩ := fun j => (HG.out.mid _ _ _ _ hR3).cell had
        go_upto_region 192 with fail
        rcases z' with _ | z'
        · have az' := HAzq.out
          rw [AtO_none] at az'
          subst az'
          have ezq : sizeXs (xtO none) = 0 := rfl
          have Kuq := hide (HKA.out u' (by simp [Ast.kids]) _ au')
          clear au'
          go_wp2_with fail
          with_reducible refine Calls.mono (Kuq.out (b + 1 + 2 * (0)) t1 _ w3 (HG.out.okN hok1 (by omega)) (castR hR3 (by omega))) ?_
          rintro e w4 ⟨r4, rfl, hR4⟩
          have d4 : ∀ j, w4.cell? ⟨ad, j, none⟩ = w0.cell? ⟨ad, j, none⟩ := fun j => (HG.out.mid _ _ _ _ hR4).cell had
          go_wp2_with fail
          with_reducible refine Calls.mono (HG.out.nil b t1 t _ _ _ w4 (congrArg Prod.fst hst) (HG.out.okN hok1 (by omega)) (castR hR4 (by omega))) ?_
          rintro e wz ⟨rz, rfl, hRz⟩
          go_wp2_with fail
          go_returns
          refine ⟨_, rfl, ?_⟩
          rw [HL.out]
          unfold walkX
          rw [show V.step t (some ⟨#[102, 111, 114]⟩) s = (some t1, s1) from hst]
          simpa only [xtO, List.nil_append, walkXs_append, walkXs] using hRz
        · have az' := HAzq.out
          rw [AtO_some] at az'
          obtain ⟨pz', hpz', -⟩ := az'.ptr
          subst hpz'
          have ezq : sizeXs (xtO (some z')) = z'.xt.size := by simp [xtO, sizeXs]
          have Kzq := hide (HKA.out z' (by simp [Ast.kids]) _ az')
          clear az'
          go_wp2_with fail
          with_reducible refine Calls.mono (Kzq.out (b + 1 + 2 * (u'.xt.size)) t1 _ w3 (HG.out.okN hok1 (by omega)) (castR hR3 (by omega))) ?_
          rintro e w4 ⟨r4, rfl, hR4⟩
          have d4 : ∀ j, w4.cell? ⟨ad, j, none⟩ = w0.cell? ⟨ad, j, none⟩ := fun j => (HG.out.mid _ _ _ _ hR4).cell had
          have Kuq := hide (HKA.out u' (by simp [Ast.kids]) _ au')
          clear au'
          go_wp2_with fail
          with_reducible refine Calls.mono (Kuq.out (b + 1 + 2 * (0)) t1 _ w4 (HG.out.okN hok1 (by omega)) (castR hR4 (by omega))) ?_
          rintro e w5 ⟨r5, rfl, hR5⟩
          have d5 : ∀ j, w5.cell? ⟨ad, j, none⟩ = w0.cell? ⟨ad, j, none⟩ := fun j => (HG.out.mid _ _ _ _ hR5).cell had
          go_wp2_with fail
          with_reducible refine Calls.mono (HG.out.nil b t1 t _ _ _ w5 (congrArg Prod.fst hst) (HG.out.okN hok1 (by omega)) (castR hR5 (by omega))) ?_
          rintro e wz ⟨rz, rfl, hRz⟩
          go_wp2_with fail
          go_returns
          refine ⟨_, rfl, ?_⟩
          rw [HL.out]
          unfold walkX
          rw [show V.step t (some ⟨#[102, 111, 114]⟩) s = (some t1, s1) from hst]
          simpa only [xtO, List.nil_append, walkXs_append, walkXs] using hRz

set_option maxRecDepth 100000 in
set_option maxHeartbeats 16000000 in
theorem wk_rangeS {V : Vis} {D : Nat → Prop} {w0 : World} {ty fv : Nat} {xv : V.T → Value} {ok : Nat → V.T → Prop} {R : V.T → Nat → V.S → World → Prop} (G : GoodG V D w0 ty fv xv ok R) (p' : Int) (x' : Option Ast) (y' : Option Ast) (q' : Int) (t' : Int) (r' : Int) (z' : Ast) (u' : Ast) (hg : (Ast.rangeS p' x' y' q' t' r' z' u').good = true) (hK : ∀ k, k ∈ (Ast.rangeS p' x' y' q' t' r' z' u').kids → ∀ v, At D w0 k v → WKG V ty xv ok R k.xt v) {v : Value} (ha : At D w0 (Ast.rangeS p' x' y' q' t' r' z' u') v) : WKG V ty xv ok R (Ast.rangeS p' x' y' q' t' r' z' u').xt v := by
  intro b t s w hok hR
  have hL : (Ast.rangeS p' x' y' q' t' r' z' u').xt = .mk ⟨#[114, 97, 110, 103, 101]⟩ (xtO x' ++ xtO y' ++ [z'.xt] ++ [u'.xt]) := by simp [Ast.xt]
  have e0 : b + 2 * (Ast.rangeS p' x' y' q' t' r' z' u').xt.size = b + 1 + 2 * (sizeXs (xtO x') + sizeXs (xtO y') + z'.xt.size + u'.xt.size) + 1 := by rw [hL, XT.size]; (try simp only [sizeXs_append, sizeXs]) <;> omega
  rw [e0] at hok hR
  have HV := G.vis _ t s w _ _ hok hR ha hg
  obtain ⟨ad, rfl, had, vx', vy', vz', vu', c0, c1, ax', c2, ay', c3, c4, c5, c6, az', c7, au'⟩ := At_rangeS.1 ha
  have HL := hide hL
  have HKA := hide hK
  have HG := hide G
  have hcf := G.enters
  have hm0 := fun n W => G.meth n t W
  have hm1 := fun n t W => G.meth n t W
  have HAxq := hide ax'
  have HAyq := hide ay'
  clear hR hok hK ha hL e0 G ax' ay'
  have taComment := ta_miss ptr_Comment 217 54 rfl
  have taCommentGroup := ta_miss ptr_CommentGroup 217 54 rfl
  have taField := ta_miss ptr_Field 217 54 rfl
  have taFieldList := ta_miss ptr_FieldList 217 54 rfl
  have taBadExpr := ta_miss ptr_BadExpr 217 54 rfl
  have taIdent := ta_miss ptr_Ident 217 54 rfl
  have taBasicLit := ta_miss ptr_BasicLit 217 54 rfl
  have taEllipsis := ta_miss ptr_Ellipsis 217 54 rfl
  have taFuncLit := ta_miss ptr_FuncLit 217 54 rfl
  have taCompositeLit := ta_miss ptr_CompositeLit 217 54 rfl
  have taParenExpr := ta_miss ptr_ParenExpr 217 54 rfl
  have taSelectorExpr := ta_miss ptr_SelectorExpr 217 54 rfl
  have taIndexExpr := ta_miss ptr_IndexExpr 217 54 rfl
  have taIndexListExpr := ta_miss ptr_IndexListExpr 217 54 rfl
  have taSliceExpr := ta_miss ptr_SliceExpr 217 54 rfl
  have taTypeAssertExpr := ta_miss ptr_TypeAssertExpr 217 54 rfl
  have taCallExpr := ta_miss ptr_CallExpr 217 54 rfl
  have taStarExpr := ta_miss ptr_StarExpr 217 54 rfl
  have taUnaryExpr := ta_miss ptr_UnaryExpr 217 54 rfl
  have taBinaryExpr := ta_miss ptr_BinaryExpr 217 54 rfl
  have taKeyValueExpr := ta_miss ptr_KeyValueExpr 217 54 rfl
  have taArrayType := ta_miss ptr_ArrayType 217 54 rfl
  have taStructType := ta_miss ptr_StructType 217 54 rfl
  have taFuncType := ta_miss ptr_FuncType 217 54 rfl
  have taInterfaceType := ta_miss ptr_InterfaceType 217 54 rfl
  have taMapType := ta_miss ptr_MapType 217 54 rfl
  have taChanType := ta_miss ptr_ChanType 217 54 rfl
  have taBadStmt := ta_miss ptr_BadStmt 217 54 rfl
  have taDeclStmt := ta_miss ptr_DeclStmt 217 54 rfl
  have taEmptyStmt := ta_miss ptr_EmptyStmt 217 54 rfl
  have taLabeledStmt := ta_miss ptr_LabeledStmt 217 54 rfl
  have taExprStmt := ta_miss ptr_ExprStmt 217 54 rfl
  have taSendStmt := ta_miss ptr_SendStmt 217 54 rfl
  have taIncDecStmt := ta_miss ptr_IncDecStmt 217 54 rfl
  have taAssignStmt := ta_miss ptr_AssignStmt 217 54 rfl
  have taGoStmt := ta_miss ptr_GoStmt 217 54 rfl
  have taDeferStmt := ta_miss ptr_DeferStmt 217 54 rfl
  have taReturnStmt := ta_miss ptr_ReturnStmt 217 54 rfl
  have taBranchStmt := ta_miss ptr_BranchStmt 217 54 rfl
  have taBlockStmt := ta_miss ptr_BlockStmt 217 54 rfl
  have taIfStmt := ta_miss ptr_IfStmt 217 54 rfl
  have taCaseClause := ta_miss ptr_CaseClause 217 54 rfl
  have taSwitchStmt := ta_miss ptr_SwitchStmt 217 54 rfl
  have taTypeSwitchStmt := ta_miss ptr_TypeSwitchStmt 217 54 rfl
  have taCommClause := ta_miss ptr_CommClause 217 54 rfl
  have taSelectStmt := ta_miss ptr_SelectStmt 217 54 rfl
  have taForStmt := ta_miss ptr_ForStmt 217 54 rfl
  have taH := ta_hit ptr_RangeStmt 54
  rcases hst : V.step t (some (Ast.rangeS p' x' y' q' t' r' z' u').kind) s with ⟨_ | t1, s1⟩
  · rw [hst] at HV
    have HV := hide HV
    go_enter Tryz.func25, Tryz.ntmps25
    go_wp2_with fail
    with_reducible refine Calls.mono HV.out ?_
    rintro e w1 ⟨rfl, hR1⟩
    go_wp2_with fail
    go_returns
    refine ⟨_, rfl, ?_⟩
    rw [HL.out]
    unfold walkX
    rw [show V.step t (some ⟨#[114, 97, 110, 103, 101]⟩) s = (none, s1) from hst]
    exact HG.out.monoN hR1 (by omega)
  · rw [hst] at HV
    have HV := hide HV
    have hm2 := fun n W => hm1 n t1 W
    clear hm1
    go_enter Tryz.func25, Tryz.ntmps25
    go_wp2_with fail
    with_reducible refine Calls.mono HV.out ?_
    rintro e w1 ⟨rfl, hok1, hR1⟩
    have d1 : ∀ j, w1.cell? ⟨ad, j, none⟩ = w0.cell? ⟨ad, j, none⟩ := fun j => (HG.out.mid _ _ _ _ hR1).cell had
    go_upto_region 197 with fail
    rcases x' with _ | x'
    · have ax' := HAxq.out
      rw [AtO_none] at ax'
      subst ax'
      have exq : sizeXs (xtO none) = 0 := rfl
      go_upto_region 199 with fail
      rcases y' with _ | y'
      · have ay' := HAyq.out
        rw [AtO_none] at ay'
        subst ay'
        have eyq : sizeXs (xtO none) = 0 := rfl
        have Kzq := hide (HKA.out z' (by simp [Ast.kids]) _ az')
        clear az'
        go_wp2_with fail
        with_reducible refine Calls.mono (Kzq.out (b + 1 + 2 * (u'.xt.size)) t1 _ w1 (HG.out.okN hok1 (by omega)) (castR hR1 (by omega))) ?_
        rintro e w2 ⟨r2, rfl, hR2⟩
        have d2 : ∀ j, w2.cell? ⟨ad, j, none⟩ = w0.cell? ⟨ad, j, none⟩ := fun j => (HG.out.mid _ _ _ _ hR2).cell had
        have Kuq := hide (HKA.out u' (by simp [Ast.kids]) _ au')
        clear au'
        go_wp2_with fail
        with_reducible refine Calls.mono (Kuq.out (b + 1 + 2 * (0)) t1 _ w2 (HG.out.okN hok1 (by omega)) (castR hR2 (by omega))) ?_
        rintro e w3 ⟨r3, rfl, hR3⟩
        have d3 : ∀ j, w3.cell? ⟨ad, j, none⟩ = w0.cell? ⟨ad, j, none⟩ := fun j => (HG.out.mid _ _ _ _ hR3).cell had
        go_wp2_with fail
        with_reducible refine Calls.mono (HG.out.nil b t1 t _ _ _ w3 (congrArg Prod.fst hst) (HG.out.okN hok1 (by omega)) (castR hR3 (by omega))) ?_
        rintro e wz ⟨rz, rfl, hRz⟩
        go_wp2_with fail
        go_returns
        refine ⟨_, rfl, ?_⟩
        rw [HL.out]
        unfold walkX
        rw [show V.step t (some ⟨#[114, 97, 110, 103, 101]⟩) s = (some t1, s1) from hst]
        simpa only [xtO, List.nil_append, walkXs_append, walkXs] using hRz
      · have ay' := HAyq.out
        rw [AtO_some] at ay'
        obtain ⟨py', hpy', -⟩ := ay'.ptr
        subst hpy'
        have eyq : sizeXs (xtO (some y')) = y'.xt.size := by simp [xtO, sizeXs]
        have Kyq := hide (HKA.out y' (by simp [Ast.kids]) _ ay')
        clear ay'
        go_wp2_with fail
        with_reducible refine Calls.mono (Kyq.out (b + 1 + 2 * (z'.xt.size + u'.xt.size)) t1 _ w1 (HG.out.okN hok1 (by omega)) (castR hR1 (by omega))) ?_
        rintro e w2 ⟨r2, rfl, hR2⟩
        have d2 : ∀ j, w2.cell? ⟨ad, j, none⟩ = w0.cell? ⟨ad, j, none⟩ := fun j => (HG.out.mid _ _ _ _ hR2).cell had
        have Kzq := hide (HKA.out z' (by simp [Ast.kids]) _ az')
        clear az'
        go_wp2_with fail
        with_reducible refine Calls.mono (Kzq.out (b + 1 + 2 * (u'.xt.size)) t1 _ w2 (HG.out.okN hok1 (by omega)) (castR hR2 (by omega))) ?_
        rintro e w3 ⟨r3, rfl, hR3⟩
        have d3 : ∀ j, w3.cell? ⟨ad, j, none⟩ = w0.cell? ⟨ad, j, none⟩ := fun j => (HG.out.mid _ _ _ _ hR3).cell had
        have Kuq := hide (HKA.out u' (by simp [Ast.kids]) _ au')
        clear au'
        go_wp2_with fail
        with_reducible refine Calls.mono (Kuq.out (b + 1 + 2 * (0)) t1 _ w3 (HG.out.okN hok1 (by omega)) (castR hR3 (by omega))) ?_
        rintro e w4 ⟨r4, rfl, hR4⟩
        have d4 : ∀ j, w4.cell? ⟨ad, j, none⟩ = w0.cell? ⟨ad, j, none⟩ := fun j => (HG.out.mid _ _ _ _ hR4).cell had
        go_wp2_with fail
        with_reducible refine Calls.mono (HG.out.nil b t1 t _ _ _ w4 (congrArg Prod.fst hst) (HG.out.okN hok1 (by omega)) (castR hR4 (by omega))) ?_
        rintro e wz ⟨rz, rfl, hRz⟩
        go_wp2_with fail
        go_returns
        refine ⟨_, rfl, ?_⟩
        rw [HL.out]
        unfold walkX
        rw [show V.step t (some ⟨#[114, 97, 110, 103, 101]⟩) s = (some t1, s1) from hst]
        simpa only [xtO, List.nil_append, walkXs_append, walkXs] using hRz
    · have ax' := HAxq.out
      rw [AtO_some] at ax'
      obtain ⟨px', hpx', -⟩ := ax'.ptr
      subst hpx'
      have exq : sizeXs (xtO (some x')) = x'.xt.size := by simp [xtO, sizeXs]
      have Kxq := hide (HKA.out x' (by simp [Ast.kids]) _ ax')
      clear ax'
      go_wp2_with fail
      with_reducible refine Calls.mono (Kxq.out (b + 1 + 2 * (sizeXs (xtO y') + z'.xt.size + u'.xt.size)) t1 _ w1 (HG.out.okN hok1 (by omega)) (castR hR1 (by omega))) ?_
      rintro e w2 ⟨r2, rfl, hR2⟩
      have d2 : ∀ j, w2.cell? ⟨ad, j, none⟩ = w0.cell? ⟨ad, j, none⟩ := fun j => (HG.out.mid _ _ _ _ hR2).cell had
      go_upto_region 199 with fail
      rcases y' with _ | y'
      · have ay' := HAyq.out
        rw [AtO_none] at ay'
        subst ay'
        have eyq : sizeXs (xtO none) = 0 := rfl
        have Kzq := hide (HKA.out z' (by simp [Ast.kids]) _ az')
        clear az'
        go_wp2_with fail
        with_reducible refine Calls.mono (Kzq.out (b + 1 + 2 * (u'.xt.size)) t1 _ w2 (HG.out.okN hok1 (by omega)) (castR hR2 (by omega))) ?_
        rintro e w3 ⟨r3, rfl, hR3⟩
        have d3 : ∀ j, w3.cell? ⟨ad, j, none⟩ = w0.cell? ⟨ad, j, none⟩ := fun j => (HG.out.mid _ _ _ _ hR3).cell had
        have Kuq := hide (HKA.out u' (by simp [Ast.kids]) _ au')
        clear au'
        go_wp2_with fail
        with_reducible refine Calls.mono (Kuq.out (b + 1 + 2 * (0)) t1 _ w3 (HG.out.okN hok1 (by omega)) (castR hR3 (by omega))) ?_
        rintro e w4 ⟨r4, rfl, hR4⟩
        have d4 : ∀ j, w4.cell? ⟨ad, j, none⟩ = w0.cell? ⟨ad, j, none⟩ := fun j => (HG.out.mid _ _ _ _ hR4).cell had
        go_wp2_with fail
        with_reducible refine Calls.mono (HG.out.nil b t1 t _ _ _ w4 (congrArg Prod.fst hst) (HG.out.okN hok1 (by omega)) (castR hR4 (by omega))) ?_
        rintro e wz ⟨rz, rfl, hRz⟩
        go_wp2_with fail
        go_returns
        refine ⟨_, rfl, ?_⟩
        rw [HL.out]
        unfold walkX
        rw [show V.step t (some ⟨#[114, 97, 110, 103, 101]⟩) s = (some t1, s1) from hst]
        simpa only [xtO, List.nil_append, walkXs_append, walkXs] using hRz
      · have ay' := HAyq.out
        rw [AtO_some] at ay'
        obtain ⟨py', hpy', -⟩ := ay'.ptr
        subst hpy'
        have eyq : sizeXs (xtO (some y')) = y'.xt.size := by simp [xtO, sizeXs]
        have Kyq := hide (HKA.out y' (by simp [Ast.kids]) _ ay')
        clear ay'
        go_wp2_with fail
        with_reducible refine Calls.mono (Kyq.out (b + 1 + 2 * (z'.xt.size + u'.xt.size)) t1 _ w2 (HG.out.okN hok1 (by omega)) (castR hR2 (by omega))) ?_
        rintro e w3 ⟨r3, rfl, hR3⟩
        have d3 : ∀ j, w3.cell? ⟨ad, j, none⟩ = w0.cell? ⟨ad, j, none⟩ := fun j => (HG.out.mid _ _ _ _ hR3).cell had
        have Kzq := hide (HKA.out z' (by simp [Ast.kids]) _ az')
        clear az'
        go_wp2_with fail
        with_reducible refine Calls.mono (Kzq.out (b + 1 + 2 * (u'.xt.size)) t1 _ w3 (HG.out.okN hok1 (by omega)) (castR hR3 (by omega))) ?_
        rintro e w4 ⟨r4, rfl, hR4⟩
        have d4 : ∀ j, w4.cell? ⟨ad, j, none⟩ = w0.cell? ⟨ad, j, none⟩ := fun j => (HG.out.mid _ _ _ _ hR4).cell had
        have Kuq := hide (HKA.out u' (by simp [Ast.kids]) _ au')
        clear au'
        go_wp2_with fail
        with_reducible refine Calls.mono (Kuq.out (b + 1 + 2 * (0)) t1 _ w4 (HG.out.okN hok1 (by omega)) (castR hR4 (by omega))) ?_
        rintro e w5 ⟨r5, rfl, hR5⟩
        have d5 : ∀ j, w5.cell? ⟨ad, j, none⟩ = w0.cell? ⟨ad, j, none⟩ := fun j => (HG.out.mid _ _ _ _ hR5).cell had
        go_wp2_with fail
        with_reducible refine Calls.mono (HG.out.nil b t1 t _ _ _ w5 (congrArg Prod.fst hst) (HG.out.okN hok1 (by omega)) (castR hR5 (by omega))) ?_
        rintro e wz ⟨rz, rfl, hRz⟩
        go_wp2_with fail
        go_returns
        refine ⟨_, rfl, ?_⟩
        rw [HL.out]
        unfold walkX
        rw [show V.step t (some ⟨#[114, 97, 110, 103, 101]⟩) s = (some t1, s1) from hst]
        simpa only [xtO, List.nil_append, walkXs_append, walkXs] using hRz

end Go.Proofs.YtkkgfgllfbahlaaGreatFmt

namespace Go.Proofs.YtkkgfgllfbahlaaGreatFmt
open Go Go.RowKit

theorem walk_all {V : Vis} {D : Nat → Prop} {w0 : World} {ty fv : Nat} {xv : V.T → Value} {ok : Nat → V.T → Prop} {R : V.T → Nat → V.S → World → Prop} (G : GoodG V D w0 ty fv xv ok R) : ∀ (m : Nat) (a : Ast), a.xt.size ≤ m → a.good = true → ∀ v, At D w0 a v → WKG V ty xv ok R a.xt v := by
  intro m
  induction m with
  | zero => intro a hm; have := xt_pos a; omega
  | succ m ih =>
    intro a hm hg v ha
    have hK : ∀ k, k ∈ a.kids → ∀ v, At D w0 k v → WKG V ty xv ok R k.xt v := fun k hk => ih k (by have := kid_xt hk; omega) (kid_good hg hk)
    cases a
    case ident p s => exact wk_ident G p s hg hK ha
    case lit p e k s => exact wk_lit G p e k s hg hK ha
    case paren l x r => exact wk_paren G l x r hg hK ha
    case unary p t x => exact wk_unary G p t x hg hK ha
    case binary x p t y => exact wk_binary G x p t y hg hK ha
    case sel x y => exact wk_sel G x y hg hK ha
    case index x l y r => exact wk_index G x l y r hg hK ha
    case call x l a e r => exact wk_call G x l a e r hg hK ha
    case asrt x l y r => exact wk_asrt G x l y r hg hK ha
    case exprS x => exact wk_exprS G x hg hK ha
    case send x p y => exact wk_send G x p y hg hK ha
    case step x p t => exact wk_step G x p t hg hK ha
    case assign a p t b => exact wk_assign G a p t b hg hK ha
    case goS p x => exact wk_goS G p x hg hK ha
    case deferS p x => exact wk_deferS G p x hg hK ha
    case ret p a => exact wk_ret G p a hg hK ha
    case branch p t x => exact wk_branch G p t x hg hK ha
    case label x c y => exact wk_label G x c y hg hK ha
    case block l a r => exact wk_block G l a r hg hK ha
    case ifS p x y z u => exact wk_ifS G p x y z u hg hK ha
    case caseC p a c b => exact wk_caseC G p a c b hg hK ha
    case switchS p x y z => exact wk_switchS G p x y z hg hK ha
    case typesS p x y z => exact wk_typesS G p x y z hg hK ha
    case commC p x c b => exact wk_commC G p x c b hg hK ha
    case selectS p z => exact wk_selectS G p z hg hK ha
    case forS p x y z u => exact wk_forS G p x y z u hg hK ha
    case rangeS p x y q t r z u => exact wk_rangeS G p x y q t r z u hg hK ha
theorem walk_any {V : Vis} {D : Nat → Prop} {w0 : World} {ty fv : Nat} {xv : V.T → Value} {ok : Nat → V.T → Prop} {R : V.T → Nat → V.S → World → Prop} (G : GoodG V D w0 ty fv xv ok R) {a : Ast} (hg : a.good = true) {v : Value} (ha : At D w0 a v) : WKG V ty xv ok R a.xt v := walk_all G a.xt.size a (Nat.le_refl _) hg v ha
end Go.Proofs.YtkkgfgllfbahlaaGreatFmt
