/- impl.expr at the other kinds (printed by gen_cv.py).
impl.stmt at a branch, a range, a case (printed by gen_cv.py). -/
import Derived.Test.YtkkgfgllfbahlaaGreatFmtCvE
import Derived.Test.YtkkgfgllfbahlaaGreatFmtBU
import Derived.Deep.RegionHeld3
set_option linter.unusedVariables false
set_option linter.unusedSimpArgs false
namespace Go.Proofs.YtkkgfgllfbahlaaGreatFmt
open Go Go.RowKit
set_option linter.unusedSimpArgs false

set_option maxRecDepth 100000 in
set_option maxHeartbeats 4000000 in
theorem cv_sel (x : Ast) (y : Ast) (hx : CvE x) : CvE (.sel x y) := by
  intro S v w ha hS hk h0
  obtain ⟨ad, rfl, had, vx, vy, c0, ax, c1, ay⟩ := At_sel.1 ha
  have hlt := hS ad had
  have hne1 : ¬ ad = w.heap.size := by omega
  have hne2 : ¬ w.heap.size = ad := by omega
  obtain ⟨sn, hvy, cn⟩ := ay.name
  have hltn := hS vy hvy
  have hnn1 : ¬ vy = w.heap.size := by omega
  have hnn2 : ¬ w.heap.size = vy := by omega
  have Hx := hide (hx.at ax hS hk h0)
  have taIdent := ta_miss ptr_Ident 109 80 rfl
  have taBasicLit := ta_miss ptr_BasicLit 109 80 rfl
  have taParenExpr := ta_miss ptr_ParenExpr 109 80 rfl
  have taUnaryExpr := ta_miss ptr_UnaryExpr 109 80 rfl
  have taBinaryExpr := ta_miss ptr_BinaryExpr 109 80 rfl
  have taH := ta_hit ptr_SelectorExpr 80
  clear ha
  go_enter Tryz.func54, Tryz.ntmps54
  go_wp2_with fail
  go_region_held3 (fun w' => w'.cell? ⟨ad, 0, none⟩ = some vx ∧ w'.cell? ⟨ad, 1, none⟩ = some (.pointer (some ⟨vy, 0, none⟩)) ∧ w'.cell? ⟨vy, 1, none⟩ = some (.string sn)) (go_keep) (first
    | (go_at_call 54
       with_reducible refine Calls.mono (Hx.out _ ?_) ?_
       · exact (by repeat (first | exact Bel.refl _ | assumption | refine Bel.alloc ?_ _ | refine Bel.drew ?_ | refine Bel.set ?_ (by first | exact Nat.le_refl _ | (simp; done) | (simp; omega)) _))
       rintro e w1 ⟨t1, b1, n1, m1, rfl, hT1⟩
       have hw1 : Bel w w1 := Bel.trans (by repeat (first | exact Bel.refl _ | assumption | refine Bel.alloc ?_ _ | refine Bel.drew ?_ | refine Bel.set ?_ (by first | exact Nat.le_refl _ | (simp; done) | (simp; omega)) _)) hT1
       have z1 := hT1.le
       try simp only [World.size_alloc, World.size_setCell, size_drewN, World.size_drew] at z1
       obtain ⟨c1_0, f1_0, l1_0, n1_0, m1_0⟩ := hT1.facts (b := w.heap.size) (by (first | omega | (simp only [World.size_alloc, World.size_setCell, size_drewN, World.size_drew] <;> omega)))
       obtain ⟨c1_1, f1_1, l1_1, n1_1, m1_1⟩ := hw1.facts (b := ad) (by (first | omega | (simp only [World.size_alloc, World.size_setCell, size_drewN, World.size_drew] <;> omega)))
       obtain ⟨c1_2, f1_2, l1_2, n1_2, m1_2⟩ := hw1.facts (b := vy) (by (first | omega | (simp only [World.size_alloc, World.size_setCell, size_drewN, World.size_drew] <;> omega)))
      )
    | (go_at_call 78
       refine (kids_any _ _ _ _).mono ?_
       rintro e wz ⟨bk, rfl, rfl⟩
      )
)
  go_wp2_with fail
  refine bodyPost_ret (v := .agg #[.string ⟨#[115, 101, 108, 101, 99, 116]⟩, .string sn, .slice bk 1 1]) (by simp [*, results, Tryz.results54, go_sem]) rfl ⟨_, _, _, _, rfl, (by repeat (first | exact Bel.refl _ | assumption | refine Bel.alloc ?_ _ | refine Bel.drew ?_ | refine Bel.set ?_ (by first | exact Nat.le_refl _ | (simp; done) | (simp; omega)) _))⟩

set_option maxRecDepth 100000 in
set_option maxHeartbeats 4000000 in
theorem cv_index (x : Ast) (l : Int) (y : Ast) (r : Int) (hx : CvE x) (hy : CvE y) : CvE (.index x l y r) := by
  intro S v w ha hS hk h0
  obtain ⟨ad, rfl, had, vx, vy, c0, ax, c1, c2, ay, c3⟩ := At_index.1 ha
  have hlt := hS ad had
  have hne1 : ¬ ad = w.heap.size := by omega
  have hne2 : ¬ w.heap.size = ad := by omega
  have Hx := hide (hx.at ax hS hk h0)
  have Hy := hide (hy.at ay hS hk h0)
  have taIdent := ta_miss ptr_Ident 112 80 rfl
  have taBasicLit := ta_miss ptr_BasicLit 112 80 rfl
  have taParenExpr := ta_miss ptr_ParenExpr 112 80 rfl
  have taUnaryExpr := ta_miss ptr_UnaryExpr 112 80 rfl
  have taBinaryExpr := ta_miss ptr_BinaryExpr 112 80 rfl
  have taSelectorExpr := ta_miss ptr_SelectorExpr 112 80 rfl
  have taH := ta_hit ptr_IndexExpr 80
  clear ha
  go_enter Tryz.func54, Tryz.ntmps54
  go_wp2_with fail
  go_region_held3 (fun w' => w'.cell? ⟨ad, 0, none⟩ = some vx ∧ w'.cell? ⟨ad, 2, none⟩ = some vy) (go_keep) (first
    | (go_at_call 54
       with_reducible refine Calls.mono (Hx.out _ ?_) ?_
       · exact (by repeat (first | exact Bel.refl _ | assumption | refine Bel.alloc ?_ _ | refine Bel.drew ?_ | refine Bel.set ?_ (by first | exact Nat.le_refl _ | (simp; done) | (simp; omega)) _))
       rintro e w1 ⟨t1, b1, n1, m1, rfl, hT1⟩
       have hw1 : Bel w w1 := Bel.trans (by repeat (first | exact Bel.refl _ | assumption | refine Bel.alloc ?_ _ | refine Bel.drew ?_ | refine Bel.set ?_ (by first | exact Nat.le_refl _ | (simp; done) | (simp; omega)) _)) hT1
       have z1 := hT1.le
       try simp only [World.size_alloc, World.size_setCell, size_drewN, World.size_drew] at z1
       obtain ⟨c1_0, f1_0, l1_0, n1_0, m1_0⟩ := hT1.facts (b := w.heap.size) (by (first | omega | (simp only [World.size_alloc, World.size_setCell, size_drewN, World.size_drew] <;> omega)))
       obtain ⟨c1_1, f1_1, l1_1, n1_1, m1_1⟩ := hw1.facts (b := ad) (by (first | omega | (simp only [World.size_alloc, World.size_setCell, size_drewN, World.size_drew] <;> omega)))
      )
    | (go_at_call 54
       with_reducible refine Calls.mono (Hy.out _ ?_) ?_
       · exact (by repeat (first | exact Bel.refl _ | assumption | refine Bel.alloc ?_ _ | refine Bel.drew ?_ | refine Bel.set ?_ (by first | exact Nat.le_refl _ | (simp; done) | (simp; omega)) _))
       rintro e w2 ⟨t2, b2, n2, m2, rfl, hT2⟩
       have hw2 : Bel w w2 := Bel.trans (by repeat (first | exact Bel.refl _ | assumption | refine Bel.alloc ?_ _ | refine Bel.drew ?_ | refine Bel.set ?_ (by first | exact Nat.le_refl _ | (simp; done) | (simp; omega)) _)) hT2
       have z2 := hT2.le
       try simp only [World.size_alloc, World.size_setCell, size_drewN, World.size_drew] at z2
       obtain ⟨c2_0, f2_0, l2_0, n2_0, m2_0⟩ := hT2.facts (b := w.heap.size) (by (first | omega | (simp only [World.size_alloc, World.size_setCell, size_drewN, World.size_drew] <;> omega)))
       obtain ⟨c2_1, f2_1, l2_1, n2_1, m2_1⟩ := hw2.facts (b := ad) (by (first | omega | (simp only [World.size_alloc, World.size_setCell, size_drewN, World.size_drew] <;> omega)))
      )
    | (go_at_call 78
       refine (kids_any _ _ _ _).mono ?_
       rintro e wz ⟨bk, rfl, rfl⟩
      )
)
  go_wp2_with fail
  refine bodyPost_ret (v := .agg #[.string ⟨#[105, 110, 100, 101, 120]⟩, .string ⟨#[]⟩, .slice bk 2 2]) (by simp [*, results, Tryz.results54, go_sem]) rfl ⟨_, _, _, _, rfl, (by repeat (first | exact Bel.refl _ | assumption | refine Bel.alloc ?_ _ | refine Bel.drew ?_ | refine Bel.set ?_ (by first | exact Nat.le_refl _ | (simp; done) | (simp; omega)) _))⟩

set_option maxRecDepth 100000 in
set_option maxHeartbeats 4000000 in
theorem cv_asrt (x : Ast) (l : Int) (y : Option Ast) (r : Int) (hx : CvE x) (hy : ∀ a, y = some a → CvE a) : CvE (.asrt x l y r) := by
  intro S v w ha hS hk h0
  obtain ⟨ad, rfl, had, vx, vy, c0, ax, c1, c2, ay, c3⟩ := At_asrt.1 ha
  have hlt := hS ad had
  have hne1 : ¬ ad = w.heap.size := by omega
  have hne2 : ¬ w.heap.size = ad := by omega
  have Hx := hide (hx.at ax hS hk h0)
  have Hy := hide (cvEO hy ay hS hk h0)
  have taIdent := ta_miss ptr_Ident 121 80 rfl
  have taBasicLit := ta_miss ptr_BasicLit 121 80 rfl
  have taParenExpr := ta_miss ptr_ParenExpr 121 80 rfl
  have taUnaryExpr := ta_miss ptr_UnaryExpr 121 80 rfl
  have taBinaryExpr := ta_miss ptr_BinaryExpr 121 80 rfl
  have taSelectorExpr := ta_miss ptr_SelectorExpr 121 80 rfl
  have taIndexExpr := ta_miss ptr_IndexExpr 121 80 rfl
  have taCallExpr := ta_miss ptr_CallExpr 121 80 rfl
  have taH := ta_hit ptr_TypeAssertExpr 80
  clear ha
  go_enter Tryz.func54, Tryz.ntmps54
  go_wp2_with fail
  go_region_held3 (fun w' => w'.cell? ⟨ad, 0, none⟩ = some vx ∧ w'.cell? ⟨ad, 2, none⟩ = some vy) (go_keep) (first
    | (go_at_call 54
       with_reducible refine Calls.mono (Hx.out _ ?_) ?_
       · exact (by repeat (first | exact Bel.refl _ | assumption | refine Bel.alloc ?_ _ | refine Bel.drew ?_ | refine Bel.set ?_ (by first | exact Nat.le_refl _ | (simp; done) | (simp; omega)) _))
       rintro e w1 ⟨t1, b1, n1, m1, rfl, hT1⟩
       have hw1 : Bel w w1 := Bel.trans (by repeat (first | exact Bel.refl _ | assumption | refine Bel.alloc ?_ _ | refine Bel.drew ?_ | refine Bel.set ?_ (by first | exact Nat.le_refl _ | (simp; done) | (simp; omega)) _)) hT1
       have z1 := hT1.le
       try simp only [World.size_alloc, World.size_setCell, size_drewN, World.size_drew] at z1
       obtain ⟨c1_0, f1_0, l1_0, n1_0, m1_0⟩ := hT1.facts (b := w.heap.size) (by (first | omega | (simp only [World.size_alloc, World.size_setCell, size_drewN, World.size_drew] <;> omega)))
       obtain ⟨c1_1, f1_1, l1_1, n1_1, m1_1⟩ := hw1.facts (b := ad) (by (first | omega | (simp only [World.size_alloc, World.size_setCell, size_drewN, World.size_drew] <;> omega)))
      )
    | (go_at_call 54
       with_reducible refine Calls.mono (Hy.out _ ?_) ?_
       · exact (by repeat (first | exact Bel.refl _ | assumption | refine Bel.alloc ?_ _ | refine Bel.drew ?_ | refine Bel.set ?_ (by first | exact Nat.le_refl _ | (simp; done) | (simp; omega)) _))
       rintro e w2 ⟨t2, b2, n2, m2, rfl, hT2⟩
       have hw2 : Bel w w2 := Bel.trans (by repeat (first | exact Bel.refl _ | assumption | refine Bel.alloc ?_ _ | refine Bel.drew ?_ | refine Bel.set ?_ (by first | exact Nat.le_refl _ | (simp; done) | (simp; omega)) _)) hT2
       have z2 := hT2.le
       try simp only [World.size_alloc, World.size_setCell, size_drewN, World.size_drew] at z2
       obtain ⟨c2_0, f2_0, l2_0, n2_0, m2_0⟩ := hT2.facts (b := w.heap.size) (by (first | omega | (simp only [World.size_alloc, World.size_setCell, size_drewN, World.size_drew] <;> omega)))
       obtain ⟨c2_1, f2_1, l2_1, n2_1, m2_1⟩ := hw2.facts (b := ad) (by (first | omega | (simp only [World.size_alloc, World.size_setCell, size_drewN, World.size_drew] <;> omega)))
      )
    | (go_at_call 78
       refine (kids_any _ _ _ _).mono ?_
       rintro e wz ⟨bk, rfl, rfl⟩
      )
)
  go_wp2_with fail
  refine bodyPost_ret (v := .agg #[.string ⟨#[97, 115, 115, 101, 114, 116]⟩, .string ⟨#[]⟩, .slice bk 2 2]) (by simp [*, results, Tryz.results54, go_sem]) rfl ⟨_, _, _, _, rfl, (by repeat (first | exact Bel.refl _ | assumption | refine Bel.alloc ?_ _ | refine Bel.drew ?_ | refine Bel.set ?_ (by first | exact Nat.le_refl _ | (simp; done) | (simp; omega)) _))⟩

end Go.Proofs.YtkkgfgllfbahlaaGreatFmt

namespace Go.Proofs.YtkkgfgllfbahlaaGreatFmt
open Go Go.RowKit
set_option linter.unusedSimpArgs false

set_option maxRecDepth 100000 in
set_option maxHeartbeats 4000000 in
theorem cv_branch0 (p : Int) (t : Int) (ht : tokR t) : CvS (.branch p t none) := by
  intro S v w ha hS hk h0
  obtain ⟨ad, rfl, had, vx, c0, c1, c2, ax⟩ := At_branch.1 ha
  have hlt := hS ad had
  have hne1 : ¬ ad = w.heap.size := by omega
  have hne2 : ¬ w.heap.size = ad := by omega
  rw [AtQ_none] at ax
  subst ax
  have Ht := hide (tok_at ht hk h0)
  have taEmptyStmt := ta_miss ptr_EmptyStmt 189 49 rfl
  have taExprStmt := ta_miss ptr_ExprStmt 189 49 rfl
  have taSendStmt := ta_miss ptr_SendStmt 189 49 rfl
  have taIncDecStmt := ta_miss ptr_IncDecStmt 189 49 rfl
  have taAssignStmt := ta_miss ptr_AssignStmt 189 49 rfl
  have taGoStmt := ta_miss ptr_GoStmt 189 49 rfl
  have taDeferStmt := ta_miss ptr_DeferStmt 189 49 rfl
  have taReturnStmt := ta_miss ptr_ReturnStmt 189 49 rfl
  have taH := ta_hit ptr_BranchStmt 49
  clear ha
  go_enter Tryz.func53, Tryz.ntmps53
  go_wp2_with fail
  with_reducible refine Calls.mono (Ht.out _ ?_) ?_
  · exact (by repeat (first | exact Bel.refl _ | assumption | refine Bel.alloc ?_ _ | refine Bel.drew ?_ | refine Bel.set ?_ (by first | exact Nat.le_refl _ | (simp; done) | (simp; omega)) _))
  rintro e wz ⟨ts, rfl, rfl⟩
  go_wp2_with fail
  refine bodyPost_ret (v := .agg #[.string ⟨#[98, 114, 97, 110, 99, 104]⟩, .string ts, .slice none 0 0]) (by simp [*, results, Tryz.results53, go_sem]) rfl ⟨_, _, _, _, rfl, (by repeat (first | exact Bel.refl _ | assumption | refine Bel.alloc ?_ _ | refine Bel.drew ?_ | refine Bel.set ?_ (by first | exact Nat.le_refl _ | (simp; done) | (simp; omega)) _))⟩

set_option maxRecDepth 100000 in
set_option maxHeartbeats 4000000 in
theorem cv_branch1 (p : Int) (t : Int) (x : Ast) (ht : tokR t) (hx : CvE x) : CvS (.branch p t (some x)) := by
  intro S v w ha hS hk h0
  obtain ⟨ad, rfl, had, vx, c0, c1, c2, ax⟩ := At_branch.1 ha
  have hlt := hS ad had
  have hne1 : ¬ ad = w.heap.size := by omega
  have hne2 : ¬ w.heap.size = ad := by omega
  rw [AtQ_some] at ax
  obtain ⟨vq, rfl, aq⟩ := ax
  have Hx := hide (hx.at aq hS hk h0)
  have Ht := hide (tok_at ht hk h0)
  have taEmptyStmt := ta_miss ptr_EmptyStmt 189 49 rfl
  have taExprStmt := ta_miss ptr_ExprStmt 189 49 rfl
  have taSendStmt := ta_miss ptr_SendStmt 189 49 rfl
  have taIncDecStmt := ta_miss ptr_IncDecStmt 189 49 rfl
  have taAssignStmt := ta_miss ptr_AssignStmt 189 49 rfl
  have taGoStmt := ta_miss ptr_GoStmt 189 49 rfl
  have taDeferStmt := ta_miss ptr_DeferStmt 189 49 rfl
  have taReturnStmt := ta_miss ptr_ReturnStmt 189 49 rfl
  have taH := ta_hit ptr_BranchStmt 49
  clear ha
  go_enter Tryz.func53, Tryz.ntmps53
  go_wp2_with fail
  with_reducible refine Calls.mono (Ht.out _ ?_) ?_
  · exact (by repeat (first | exact Bel.refl _ | assumption | refine Bel.alloc ?_ _ | refine Bel.drew ?_ | refine Bel.set ?_ (by first | exact Nat.le_refl _ | (simp; done) | (simp; omega)) _))
  rintro e wz ⟨ts, rfl, rfl⟩
  go_wp2_with fail
  with_reducible refine Calls.mono (Hx.out _ ?_) ?_
  · exact (by repeat (first | exact Bel.refl _ | assumption | refine Bel.alloc ?_ _ | refine Bel.drew ?_ | refine Bel.set ?_ (by first | exact Nat.le_refl _ | (simp; done) | (simp; omega)) _))
  rintro e w1 ⟨t1, b1, n1, m1, rfl, hT1⟩
  have hw1 : Bel w w1 := Bel.trans (by repeat (first | exact Bel.refl _ | assumption | refine Bel.alloc ?_ _ | refine Bel.drew ?_ | refine Bel.set ?_ (by first | exact Nat.le_refl _ | (simp; done) | (simp; omega)) _)) hT1
  have z1 := hT1.le
  try simp only [World.size_alloc, World.size_setCell, size_drewN, World.size_drew] at z1
  obtain ⟨c1_0, f1_0, l1_0, n1_0, m1_0⟩ := hT1.facts (b := w.heap.size) (by (first | omega | (simp only [World.size_alloc, World.size_setCell, size_drewN, World.size_drew] <;> omega)))
  obtain ⟨c1_1, f1_1, l1_1, n1_1, m1_1⟩ := hw1.facts (b := ad) (by (first | omega | (simp only [World.size_alloc, World.size_setCell, size_drewN, World.size_drew] <;> omega)))
  obtain ⟨c1_2, f1_2, l1_2, n1_2, m1_2⟩ := hT1.facts (b := (w.heap.size + 1)) (by (first | omega | (simp only [World.size_alloc, World.size_setCell, size_drewN, World.size_drew] <;> omega)))
  go_wp2_with fail
  refine (kids_any _ _ _ _).mono ?_
  rintro e wz ⟨bk, rfl, rfl⟩
  go_wp2_with fail
  refine bodyPost_ret (v := .agg #[.string ⟨#[98, 114, 97, 110, 99, 104]⟩, .string ts, .slice bk 1 1]) (by simp [*, results, Tryz.results53, go_sem]) rfl ⟨_, _, _, _, rfl, (by repeat (first | exact Bel.refl _ | assumption | refine Bel.alloc ?_ _ | refine Bel.drew ?_ | refine Bel.set ?_ (by first | exact Nat.le_refl _ | (simp; done) | (simp; omega)) _))⟩

/-- A row that is nil, or one with a place. -/
theorem AtS.cases {S : Nat → Prop} {w : World} {l : List Ast} {v : Value} (h : AtS S w l v) : v = .slice none 0 0 ∨ ∃ b o n c, v = .slice (some ⟨b, o, none⟩) n c := by
  rcases h with ⟨rfl, -⟩ | ⟨sb, so, cap, rfl, -⟩
  · exact .inl rfl
  · exact .inr ⟨_, _, _, _, rfl⟩

set_option maxRecDepth 100000 in
set_option maxHeartbeats 4000000 in
theorem cv_caseC (p : Int) (a : List Ast) (c : Int) (b : List Ast) (hha : ∀ z, z ∈ a → CvE z) (hla : a.length ≤ 400) (hhb : ∀ z, z ∈ b → CvS z) (hlb : b.length ≤ 400) : CvS (.caseC p a c b) := by
  intro S v w ha hS hk h0
  obtain ⟨ad, rfl, had, va, vb, c0, c1, aa, c2, c3, ab⟩ := At_caseC.1 ha
  have hlt := hS ad had
  have hne1 : ¬ ad = w.heap.size := by omega
  have hne2 : ¬ w.heap.size = ad := by omega
  have hva := AtS.cases aa
  have hsl0 : ∀ W, Sem.run Tryz.prog (binOp .eql 102 (.slice none 0 0) (.slice none 0 0)) W = .ok (.bool true) W := fun W => by kernel_rfl
  have hsl1 : ∀ (b o n k : Nat) (W : World), Sem.run Tryz.prog (binOp .eql 102 (.slice (some ⟨b, o, none⟩) n k) (.slice none 0 0)) W = .ok (.bool false) W := fun b o n k W => by kernel_rfl
  have Ha := hide (exprs_any hha hla aa hS hk h0)
  have Hb := hide (clause_any hhb hlb ab hS hk h0)
  have taEmptyStmt := ta_miss ptr_EmptyStmt 199 49 rfl
  have taExprStmt := ta_miss ptr_ExprStmt 199 49 rfl
  have taSendStmt := ta_miss ptr_SendStmt 199 49 rfl
  have taIncDecStmt := ta_miss ptr_IncDecStmt 199 49 rfl
  have taAssignStmt := ta_miss ptr_AssignStmt 199 49 rfl
  have taGoStmt := ta_miss ptr_GoStmt 199 49 rfl
  have taDeferStmt := ta_miss ptr_DeferStmt 199 49 rfl
  have taReturnStmt := ta_miss ptr_ReturnStmt 199 49 rfl
  have taBranchStmt := ta_miss ptr_BranchStmt 199 49 rfl
  have taLabeledStmt := ta_miss ptr_LabeledStmt 199 49 rfl
  have taBlockStmt := ta_miss ptr_BlockStmt 199 49 rfl
  have taIfStmt := ta_miss ptr_IfStmt 199 49 rfl
  have taForStmt := ta_miss ptr_ForStmt 199 49 rfl
  have taRangeStmt := ta_miss ptr_RangeStmt 199 49 rfl
  have taSwitchStmt := ta_miss ptr_SwitchStmt 199 49 rfl
  have taTypeSwitchStmt := ta_miss ptr_TypeSwitchStmt 199 49 rfl
  have taSelectStmt := ta_miss ptr_SelectStmt 199 49 rfl
  have taH := ta_hit ptr_CaseClause 49
  clear ha
  rcases hva with hva | ⟨b0, o0, n0, k0, hva⟩
  · subst hva
    clear Ha
    go_enter Tryz.func53, Tryz.ntmps53
    go_wp2_with fail
    go_region_held3 (fun w' => w'.cell? ⟨ad, 3, none⟩ = some vb) (go_keep) (first
      | (go_at_call 77
         refine (none_any _).mono ?_
         rintro e w1 ⟨t1, b1, n1, m1, rfl, hT1⟩
         have hw1 : Bel w w1 := Bel.trans (by repeat (first | exact Bel.refl _ | assumption | refine Bel.alloc ?_ _ | refine Bel.drew ?_ | refine Bel.set ?_ (by first | exact Nat.le_refl _ | (simp; done) | (simp; omega)) _)) hT1
         have z1 := hT1.le
         try simp only [World.size_alloc, World.size_setCell, size_drewN, World.size_drew] at z1
         obtain ⟨c1_0, f1_0, l1_0, n1_0, m1_0⟩ := hT1.facts (b := w.heap.size) (by (first | omega | (simp only [World.size_alloc, World.size_setCell, size_drewN, World.size_drew] <;> omega)))
         obtain ⟨c1_1, f1_1, l1_1, n1_1, m1_1⟩ := hw1.facts (b := ad) (by (first | omega | (simp only [World.size_alloc, World.size_setCell, size_drewN, World.size_drew] <;> omega)))
        )
      | (go_at_call 83
         with_reducible refine Calls.mono (Hb.out _ _ _ _ _ _ ?_) ?_
         · exact (by repeat (first | exact Bel.refl _ | assumption | refine Bel.alloc ?_ _ | refine Bel.drew ?_ | refine Bel.set ?_ (by first | exact Nat.le_refl _ | (simp; done) | (simp; omega)) _))
         rintro e w2 ⟨t2, b2, n2, m2, rfl, hT2⟩
         have hw2 : Bel w w2 := Bel.trans (by repeat (first | exact Bel.refl _ | assumption | refine Bel.alloc ?_ _ | refine Bel.drew ?_ | refine Bel.set ?_ (by first | exact Nat.le_refl _ | (simp; done) | (simp; omega)) _)) hT2
         have z2 := hT2.le
         try simp only [World.size_alloc, World.size_setCell, size_drewN, World.size_drew] at z2
         obtain ⟨c2_0, f2_0, l2_0, n2_0, m2_0⟩ := hT2.facts (b := w.heap.size) (by (first | omega | (simp only [World.size_alloc, World.size_setCell, size_drewN, World.size_drew] <;> omega)))
         obtain ⟨c2_1, f2_1, l2_1, n2_1, m2_1⟩ := hw2.facts (b := ad) (by (first | omega | (simp only [World.size_alloc, World.size_setCell, size_drewN, World.size_drew] <;> omega)))
        )
  )
    go_wp2_with fail
    refine bodyPost_ret (v := .agg #[.string ⟨#[99, 108, 97, 117, 115, 101]⟩, .string t2, .slice b2 n2 m2]) (by simp [*, results, Tryz.results53, go_sem]) rfl ⟨_, _, _, _, rfl, (by repeat (first | exact Bel.refl _ | assumption | refine Bel.alloc ?_ _ | refine Bel.drew ?_ | refine Bel.set ?_ (by first | exact Nat.le_refl _ | (simp; done) | (simp; omega)) _))⟩
  · subst hva
    go_enter Tryz.func53, Tryz.ntmps53
    go_wp2_with fail
    go_region_held3 (fun w' => w'.cell? ⟨ad, 1, none⟩ = some (.slice (some ⟨b0, o0, none⟩) n0 k0) ∧ w'.cell? ⟨ad, 3, none⟩ = some vb) (go_keep) (first
      | (go_at_call 80
         with_reducible refine Calls.mono (Ha.out _ ?_) ?_
         · exact (by repeat (first | exact Bel.refl _ | assumption | refine Bel.alloc ?_ _ | refine Bel.drew ?_ | refine Bel.set ?_ (by first | exact Nat.le_refl _ | (simp; done) | (simp; omega)) _))
         rintro e w1 ⟨t1, b1, n1, m1, rfl, hT1⟩
         have hw1 : Bel w w1 := Bel.trans (by repeat (first | exact Bel.refl _ | assumption | refine Bel.alloc ?_ _ | refine Bel.drew ?_ | refine Bel.set ?_ (by first | exact Nat.le_refl _ | (simp; done) | (simp; omega)) _)) hT1
         have z1 := hT1.le
         try simp only [World.size_alloc, World.size_setCell, size_drewN, World.size_drew] at z1
         obtain ⟨c1_0, f1_0, l1_0, n1_0, m1_0⟩ := hT1.facts (b := w.heap.size) (by (first | omega | (simp only [World.size_alloc, World.size_setCell, size_drewN, World.size_drew] <;> omega)))
         obtain ⟨c1_1, f1_1, l1_1, n1_1, m1_1⟩ := hw1.facts (b := ad) (by (first | omega | (simp only [World.size_alloc, World.size_setCell, size_drewN, World.size_drew] <;> omega)))
        )
      | (go_at_call 83
         with_reducible refine Calls.mono (Hb.out _ _ _ _ _ _ ?_) ?_
         · exact (by repeat (first | exact Bel.refl _ | assumption | refine Bel.alloc ?_ _ | refine Bel.drew ?_ | refine Bel.set ?_ (by first | exact Nat.le_refl _ | (simp; done) | (simp; omega)) _))
         rintro e w2 ⟨t2, b2, n2, m2, rfl, hT2⟩
         have hw2 : Bel w w2 := Bel.trans (by repeat (first | exact Bel.refl _ | assumption | refine Bel.alloc ?_ _ | refine Bel.drew ?_ | refine Bel.set ?_ (by first | exact Nat.le_refl _ | (simp; done) | (simp; omega)) _)) hT2
         have z2 := hT2.le
         try simp only [World.size_alloc, World.size_setCell, size_drewN, World.size_drew] at z2
         obtain ⟨c2_0, f2_0, l2_0, n2_0, m2_0⟩ := hT2.facts (b := w.heap.size) (by (first | omega | (simp only [World.size_alloc, World.size_setCell, size_drewN, World.size_drew] <;> omega)))
         obtain ⟨c2_1, f2_1, l2_1, n2_1, m2_1⟩ := hw2.facts (b := ad) (by (first | omega | (simp only [World.size_alloc, World.size_setCell, size_drewN, World.size_drew] <;> omega)))
        )
  )
    go_wp2_with fail
    refine bodyPost_ret (v := .agg #[.string ⟨#[99, 108, 97, 117, 115, 101]⟩, .string t2, .slice b2 n2 m2]) (by simp [*, results, Tryz.results53, go_sem]) rfl ⟨_, _, _, _, rfl, (by repeat (first | exact Bel.refl _ | assumption | refine Bel.alloc ?_ _ | refine Bel.drew ?_ | refine Bel.set ?_ (by first | exact Nat.le_refl _ | (simp; done) | (simp; omega)) _))⟩

end Go.Proofs.YtkkgfgllfbahlaaGreatFmt
