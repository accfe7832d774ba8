/- impl.stmt at the kinds with many parts (printed by gen_cv.py). -/
import Derived.Test.YtkkgfgllfbahlaaGreatFmtCvE
import Derived.Test.YtkkgfgllfbahlaaGreatFmtBU
import Derived.Deep.RegionHeld3
set_option linter.unusedVariables false
set_option linter.unusedSimpArgs false
namespace Go.Proofs.YtkkgfgllfbahlaaGreatFmt
open Go Go.RowKit
set_option linter.unusedSimpArgs false

set_option maxRecDepth 100000 in
set_option maxHeartbeats 4000000 in
theorem cv_switchS (p : Int) (x : Option Ast) (y : Option Ast) (z : Ast) (hx : ∀ a, x = some a → CvS a) (hy : ∀ a, y = some a → CvE a) (hz : CvB z) : CvS (.switchS p x y z) := by
  intro S v w ha hS hk h0
  obtain ⟨ad, rfl, had, vx, vy, vz, c0, c1, ax, c2, ay, c3, az⟩ := At_switchS.1 ha
  have hlt := hS ad had
  have hne1 : ¬ ad = w.heap.size := by omega
  have hne2 : ¬ w.heap.size = ad := by omega
  have Hx := hide (cvSO hx ax hS hk h0)
  have Hy := hide (cvEO hy ay hS hk h0)
  have Hz := hide (hz S _ w az hS hk h0)
  have taEmptyStmt := ta_miss ptr_EmptyStmt 202 49 rfl
  have taExprStmt := ta_miss ptr_ExprStmt 202 49 rfl
  have taSendStmt := ta_miss ptr_SendStmt 202 49 rfl
  have taIncDecStmt := ta_miss ptr_IncDecStmt 202 49 rfl
  have taAssignStmt := ta_miss ptr_AssignStmt 202 49 rfl
  have taGoStmt := ta_miss ptr_GoStmt 202 49 rfl
  have taDeferStmt := ta_miss ptr_DeferStmt 202 49 rfl
  have taReturnStmt := ta_miss ptr_ReturnStmt 202 49 rfl
  have taBranchStmt := ta_miss ptr_BranchStmt 202 49 rfl
  have taLabeledStmt := ta_miss ptr_LabeledStmt 202 49 rfl
  have taBlockStmt := ta_miss ptr_BlockStmt 202 49 rfl
  have taIfStmt := ta_miss ptr_IfStmt 202 49 rfl
  have taForStmt := ta_miss ptr_ForStmt 202 49 rfl
  have taRangeStmt := ta_miss ptr_RangeStmt 202 49 rfl
  have taH := ta_hit ptr_SwitchStmt 49
  clear ha
  go_enter Tryz.func53, Tryz.ntmps53
  go_wp2_with fail
  go_region_held3 (fun w' => w'.cell? ⟨ad, 1, none⟩ = some vx ∧ w'.cell? ⟨ad, 2, none⟩ = some vy ∧ w'.cell? ⟨ad, 3, none⟩ = some (.pointer (some ⟨vz, 0, none⟩))) (go_keep) (first
    | (go_at_call 53
       with_reducible refine Calls.mono (Hx.out _ ?_) ?_
       · exact (by repeat (first | exact Bel.refl _ | assumption | refine Bel.alloc ?_ _ | refine Bel.drew ?_ | refine Bel.set ?_ (by first | exact Nat.le_refl _ | (simp; done) | (simp; omega)) _))
       rintro e w1 ⟨t1, b1, n1, m1, rfl, hT1⟩
       have hw1 : Bel w w1 := Bel.trans (by repeat (first | exact Bel.refl _ | assumption | refine Bel.alloc ?_ _ | refine Bel.drew ?_ | refine Bel.set ?_ (by first | exact Nat.le_refl _ | (simp; done) | (simp; omega)) _)) hT1
       have z1 := hT1.le
       try simp only [World.size_alloc, World.size_setCell, size_drewN, World.size_drew] at z1
       obtain ⟨c1_0, f1_0, l1_0, n1_0, m1_0⟩ := hT1.facts (b := w.heap.size) (by (first | omega | (simp only [World.size_alloc, World.size_setCell, size_drewN, World.size_drew] <;> omega)))
       obtain ⟨c1_1, f1_1, l1_1, n1_1, m1_1⟩ := hw1.facts (b := ad) (by (first | omega | (simp only [World.size_alloc, World.size_setCell, size_drewN, World.size_drew] <;> omega)))
      )
    | (go_at_call 54
       with_reducible refine Calls.mono (Hy.out _ ?_) ?_
       · exact (by repeat (first | exact Bel.refl _ | assumption | refine Bel.alloc ?_ _ | refine Bel.drew ?_ | refine Bel.set ?_ (by first | exact Nat.le_refl _ | (simp; done) | (simp; omega)) _))
       rintro e w2 ⟨t2, b2, n2, m2, rfl, hT2⟩
       have hw2 : Bel w w2 := Bel.trans (by repeat (first | exact Bel.refl _ | assumption | refine Bel.alloc ?_ _ | refine Bel.drew ?_ | refine Bel.set ?_ (by first | exact Nat.le_refl _ | (simp; done) | (simp; omega)) _)) hT2
       have z2 := hT2.le
       try simp only [World.size_alloc, World.size_setCell, size_drewN, World.size_drew] at z2
       obtain ⟨c2_0, f2_0, l2_0, n2_0, m2_0⟩ := hT2.facts (b := w.heap.size) (by (first | omega | (simp only [World.size_alloc, World.size_setCell, size_drewN, World.size_drew] <;> omega)))
       obtain ⟨c2_1, f2_1, l2_1, n2_1, m2_1⟩ := hw2.facts (b := ad) (by (first | omega | (simp only [World.size_alloc, World.size_setCell, size_drewN, World.size_drew] <;> omega)))
      )
    | (go_at_call 82
       with_reducible refine Calls.mono (Hz.out _ ?_) ?_
       · exact (by repeat (first | exact Bel.refl _ | assumption | refine Bel.alloc ?_ _ | refine Bel.drew ?_ | refine Bel.set ?_ (by first | exact Nat.le_refl _ | (simp; done) | (simp; omega)) _))
       rintro e w3 ⟨t3, b3, n3, m3, rfl, hT3⟩
       have hw3 : Bel w w3 := Bel.trans (by repeat (first | exact Bel.refl _ | assumption | refine Bel.alloc ?_ _ | refine Bel.drew ?_ | refine Bel.set ?_ (by first | exact Nat.le_refl _ | (simp; done) | (simp; omega)) _)) hT3
       have z3 := hT3.le
       try simp only [World.size_alloc, World.size_setCell, size_drewN, World.size_drew] at z3
       obtain ⟨c3_0, f3_0, l3_0, n3_0, m3_0⟩ := hT3.facts (b := w.heap.size) (by (first | omega | (simp only [World.size_alloc, World.size_setCell, size_drewN, World.size_drew] <;> omega)))
       obtain ⟨c3_1, f3_1, l3_1, n3_1, m3_1⟩ := hw3.facts (b := ad) (by (first | omega | (simp only [World.size_alloc, World.size_setCell, size_drewN, World.size_drew] <;> omega)))
      )
    | (go_at_call 78
       refine (kids_any _ _ _ _).mono ?_
       rintro e wz ⟨bk, rfl, rfl⟩
      )
)
  go_wp2_with fail
  refine bodyPost_ret (v := .agg #[.string ⟨#[115, 119, 105, 116, 99, 104]⟩, .string ⟨#[]⟩, .slice bk 3 3]) (by simp [*, results, Tryz.results53, go_sem]) rfl ⟨_, _, _, _, rfl, (by repeat (first | exact Bel.refl _ | assumption | refine Bel.alloc ?_ _ | refine Bel.drew ?_ | refine Bel.set ?_ (by first | exact Nat.le_refl _ | (simp; done) | (simp; omega)) _))⟩

set_option maxRecDepth 100000 in
set_option maxHeartbeats 4000000 in
theorem cv_typesS (p : Int) (x : Option Ast) (y : Ast) (z : Ast) (hx : ∀ a, x = some a → CvS a) (hy : CvS y) (hz : CvB z) : CvS (.typesS p x y z) := by
  intro S v w ha hS hk h0
  obtain ⟨ad, rfl, had, vx, vy, vz, c0, c1, ax, c2, ay, c3, az⟩ := At_typesS.1 ha
  have hlt := hS ad had
  have hne1 : ¬ ad = w.heap.size := by omega
  have hne2 : ¬ w.heap.size = ad := by omega
  have Hx := hide (cvSO hx ax hS hk h0)
  have Hy := hide (hy.at ay hS hk h0)
  have Hz := hide (hz S _ w az hS hk h0)
  have taEmptyStmt := ta_miss ptr_EmptyStmt 205 49 rfl
  have taExprStmt := ta_miss ptr_ExprStmt 205 49 rfl
  have taSendStmt := ta_miss ptr_SendStmt 205 49 rfl
  have taIncDecStmt := ta_miss ptr_IncDecStmt 205 49 rfl
  have taAssignStmt := ta_miss ptr_AssignStmt 205 49 rfl
  have taGoStmt := ta_miss ptr_GoStmt 205 49 rfl
  have taDeferStmt := ta_miss ptr_DeferStmt 205 49 rfl
  have taReturnStmt := ta_miss ptr_ReturnStmt 205 49 rfl
  have taBranchStmt := ta_miss ptr_BranchStmt 205 49 rfl
  have taLabeledStmt := ta_miss ptr_LabeledStmt 205 49 rfl
  have taBlockStmt := ta_miss ptr_BlockStmt 205 49 rfl
  have taIfStmt := ta_miss ptr_IfStmt 205 49 rfl
  have taForStmt := ta_miss ptr_ForStmt 205 49 rfl
  have taRangeStmt := ta_miss ptr_RangeStmt 205 49 rfl
  have taSwitchStmt := ta_miss ptr_SwitchStmt 205 49 rfl
  have taH := ta_hit ptr_TypeSwitchStmt 49
  clear ha
  go_enter Tryz.func53, Tryz.ntmps53
  go_wp2_with fail
  go_region_held3 (fun w' => w'.cell? ⟨ad, 1, none⟩ = some vx ∧ w'.cell? ⟨ad, 2, none⟩ = some vy ∧ w'.cell? ⟨ad, 3, none⟩ = some (.pointer (some ⟨vz, 0, none⟩))) (go_keep) (first
    | (go_at_call 53
       with_reducible refine Calls.mono (Hx.out _ ?_) ?_
       · exact (by repeat (first | exact Bel.refl _ | assumption | refine Bel.alloc ?_ _ | refine Bel.drew ?_ | refine Bel.set ?_ (by first | exact Nat.le_refl _ | (simp; done) | (simp; omega)) _))
       rintro e w1 ⟨t1, b1, n1, m1, rfl, hT1⟩
       have hw1 : Bel w w1 := Bel.trans (by repeat (first | exact Bel.refl _ | assumption | refine Bel.alloc ?_ _ | refine Bel.drew ?_ | refine Bel.set ?_ (by first | exact Nat.le_refl _ | (simp; done) | (simp; omega)) _)) hT1
       have z1 := hT1.le
       try simp only [World.size_alloc, World.size_setCell, size_drewN, World.size_drew] at z1
       obtain ⟨c1_0, f1_0, l1_0, n1_0, m1_0⟩ := hT1.facts (b := w.heap.size) (by (first | omega | (simp only [World.size_alloc, World.size_setCell, size_drewN, World.size_drew] <;> omega)))
       obtain ⟨c1_1, f1_1, l1_1, n1_1, m1_1⟩ := hw1.facts (b := ad) (by (first | omega | (simp only [World.size_alloc, World.size_setCell, size_drewN, World.size_drew] <;> omega)))
      )
    | (go_at_call 53
       with_reducible refine Calls.mono (Hy.out _ ?_) ?_
       · exact (by repeat (first | exact Bel.refl _ | assumption | refine Bel.alloc ?_ _ | refine Bel.drew ?_ | refine Bel.set ?_ (by first | exact Nat.le_refl _ | (simp; done) | (simp; omega)) _))
       rintro e w2 ⟨t2, b2, n2, m2, rfl, hT2⟩
       have hw2 : Bel w w2 := Bel.trans (by repeat (first | exact Bel.refl _ | assumption | refine Bel.alloc ?_ _ | refine Bel.drew ?_ | refine Bel.set ?_ (by first | exact Nat.le_refl _ | (simp; done) | (simp; omega)) _)) hT2
       have z2 := hT2.le
       try simp only [World.size_alloc, World.size_setCell, size_drewN, World.size_drew] at z2
       obtain ⟨c2_0, f2_0, l2_0, n2_0, m2_0⟩ := hT2.facts (b := w.heap.size) (by (first | omega | (simp only [World.size_alloc, World.size_setCell, size_drewN, World.size_drew] <;> omega)))
       obtain ⟨c2_1, f2_1, l2_1, n2_1, m2_1⟩ := hw2.facts (b := ad) (by (first | omega | (simp only [World.size_alloc, World.size_setCell, size_drewN, World.size_drew] <;> omega)))
      )
    | (go_at_call 82
       with_reducible refine Calls.mono (Hz.out _ ?_) ?_
       · exact (by repeat (first | exact Bel.refl _ | assumption | refine Bel.alloc ?_ _ | refine Bel.drew ?_ | refine Bel.set ?_ (by first | exact Nat.le_refl _ | (simp; done) | (simp; omega)) _))
       rintro e w3 ⟨t3, b3, n3, m3, rfl, hT3⟩
       have hw3 : Bel w w3 := Bel.trans (by repeat (first | exact Bel.refl _ | assumption | refine Bel.alloc ?_ _ | refine Bel.drew ?_ | refine Bel.set ?_ (by first | exact Nat.le_refl _ | (simp; done) | (simp; omega)) _)) hT3
       have z3 := hT3.le
       try simp only [World.size_alloc, World.size_setCell, size_drewN, World.size_drew] at z3
       obtain ⟨c3_0, f3_0, l3_0, n3_0, m3_0⟩ := hT3.facts (b := w.heap.size) (by (first | omega | (simp only [World.size_alloc, World.size_setCell, size_drewN, World.size_drew] <;> omega)))
       obtain ⟨c3_1, f3_1, l3_1, n3_1, m3_1⟩ := hw3.facts (b := ad) (by (first | omega | (simp only [World.size_alloc, World.size_setCell, size_drewN, World.size_drew] <;> omega)))
      )
    | (go_at_call 78
       refine (kids_any _ _ _ _).mono ?_
       rintro e wz ⟨bk, rfl, rfl⟩
      )
)
  go_wp2_with fail
  refine bodyPost_ret (v := .agg #[.string ⟨#[116, 121, 112, 101, 115]⟩, .string ⟨#[]⟩, .slice bk 3 3]) (by simp [*, results, Tryz.results53, go_sem]) rfl ⟨_, _, _, _, rfl, (by repeat (first | exact Bel.refl _ | assumption | refine Bel.alloc ?_ _ | refine Bel.drew ?_ | refine Bel.set ?_ (by first | exact Nat.le_refl _ | (simp; done) | (simp; omega)) _))⟩

set_option maxRecDepth 100000 in
set_option maxHeartbeats 4000000 in
theorem cv_ifS (p : Int) (x : Option Ast) (y : Ast) (z : Ast) (u : Option Ast) (hx : ∀ a, x = some a → CvS a) (hy : CvE y) (hz : CvB z) (hu : ∀ a, u = some a → CvS a) : CvS (.ifS p x y z u) := by
  intro S v w ha hS hk h0
  obtain ⟨ad, rfl, had, vx, vy, vz, vu, c0, c1, ax, c2, ay, c3, az, c4, au⟩ := At_ifS.1 ha
  have hlt := hS ad had
  have hne1 : ¬ ad = w.heap.size := by omega
  have hne2 : ¬ w.heap.size = ad := by omega
  have Hx := hide (cvSO hx ax hS hk h0)
  have Hy := hide (hy.at ay hS hk h0)
  have Hz := hide (hz S _ w az hS hk h0)
  have Hu := hide (cvSO hu au hS hk h0)
  have taEmptyStmt := ta_miss ptr_EmptyStmt 196 49 rfl
  have taExprStmt := ta_miss ptr_ExprStmt 196 49 rfl
  have taSendStmt := ta_miss ptr_SendStmt 196 49 rfl
  have taIncDecStmt := ta_miss ptr_IncDecStmt 196 49 rfl
  have taAssignStmt := ta_miss ptr_AssignStmt 196 49 rfl
  have taGoStmt := ta_miss ptr_GoStmt 196 49 rfl
  have taDeferStmt := ta_miss ptr_DeferStmt 196 49 rfl
  have taReturnStmt := ta_miss ptr_ReturnStmt 196 49 rfl
  have taBranchStmt := ta_miss ptr_BranchStmt 196 49 rfl
  have taLabeledStmt := ta_miss ptr_LabeledStmt 196 49 rfl
  have taBlockStmt := ta_miss ptr_BlockStmt 196 49 rfl
  have taH := ta_hit ptr_IfStmt 49
  clear ha
  go_enter Tryz.func53, Tryz.ntmps53
  go_wp2_with fail
  go_region_held3 (fun w' => w'.cell? ⟨ad, 1, none⟩ = some vx ∧ w'.cell? ⟨ad, 2, none⟩ = some vy ∧ w'.cell? ⟨ad, 3, none⟩ = some (.pointer (some ⟨vz, 0, none⟩)) ∧ w'.cell? ⟨ad, 4, none⟩ = some vu) (go_keep) (first
    | (go_at_call 53
       with_reducible refine Calls.mono (Hx.out _ ?_) ?_
       · exact (by repeat (first | exact Bel.refl _ | assumption | refine Bel.alloc ?_ _ | refine Bel.drew ?_ | refine Bel.set ?_ (by first | exact Nat.le_refl _ | (simp; done) | (simp; omega)) _))
       rintro e w1 ⟨t1, b1, n1, m1, rfl, hT1⟩
       have hw1 : Bel w w1 := Bel.trans (by repeat (first | exact Bel.refl _ | assumption | refine Bel.alloc ?_ _ | refine Bel.drew ?_ | refine Bel.set ?_ (by first | exact Nat.le_refl _ | (simp; done) | (simp; omega)) _)) hT1
       have z1 := hT1.le
       try simp only [World.size_alloc, World.size_setCell, size_drewN, World.size_drew] at z1
       obtain ⟨c1_0, f1_0, l1_0, n1_0, m1_0⟩ := hT1.facts (b := w.heap.size) (by (first | omega | (simp only [World.size_alloc, World.size_setCell, size_drewN, World.size_drew] <;> omega)))
       obtain ⟨c1_1, f1_1, l1_1, n1_1, m1_1⟩ := hw1.facts (b := ad) (by (first | omega | (simp only [World.size_alloc, World.size_setCell, size_drewN, World.size_drew] <;> omega)))
      )
    | (go_at_call 54
       with_reducible refine Calls.mono (Hy.out _ ?_) ?_
       · exact (by repeat (first | exact Bel.refl _ | assumption | refine Bel.alloc ?_ _ | refine Bel.drew ?_ | refine Bel.set ?_ (by first | exact Nat.le_refl _ | (simp; done) | (simp; omega)) _))
       rintro e w2 ⟨t2, b2, n2, m2, rfl, hT2⟩
       have hw2 : Bel w w2 := Bel.trans (by repeat (first | exact Bel.refl _ | assumption | refine Bel.alloc ?_ _ | refine Bel.drew ?_ | refine Bel.set ?_ (by first | exact Nat.le_refl _ | (simp; done) | (simp; omega)) _)) hT2
       have z2 := hT2.le
       try simp only [World.size_alloc, World.size_setCell, size_drewN, World.size_drew] at z2
       obtain ⟨c2_0, f2_0, l2_0, n2_0, m2_0⟩ := hT2.facts (b := w.heap.size) (by (first | omega | (simp only [World.size_alloc, World.size_setCell, size_drewN, World.size_drew] <;> omega)))
       obtain ⟨c2_1, f2_1, l2_1, n2_1, m2_1⟩ := hw2.facts (b := ad) (by (first | omega | (simp only [World.size_alloc, World.size_setCell, size_drewN, World.size_drew] <;> omega)))
      )
    | (go_at_call 82
       with_reducible refine Calls.mono (Hz.out _ ?_) ?_
       · exact (by repeat (first | exact Bel.refl _ | assumption | refine Bel.alloc ?_ _ | refine Bel.drew ?_ | refine Bel.set ?_ (by first | exact Nat.le_refl _ | (simp; done) | (simp; omega)) _))
       rintro e w3 ⟨t3, b3, n3, m3, rfl, hT3⟩
       have hw3 : Bel w w3 := Bel.trans (by repeat (first | exact Bel.refl _ | assumption | refine Bel.alloc ?_ _ | refine Bel.drew ?_ | refine Bel.set ?_ (by first | exact Nat.le_refl _ | (simp; done) | (simp; omega)) _)) hT3
       have z3 := hT3.le
       try simp only [World.size_alloc, World.size_setCell, size_drewN, World.size_drew] at z3
       obtain ⟨c3_0, f3_0, l3_0, n3_0, m3_0⟩ := hT3.facts (b := w.heap.size) (by (first | omega | (simp only [World.size_alloc, World.size_setCell, size_drewN, World.size_drew] <;> omega)))
       obtain ⟨c3_1, f3_1, l3_1, n3_1, m3_1⟩ := hw3.facts (b := ad) (by (first | omega | (simp only [World.size_alloc, World.size_setCell, size_drewN, World.size_drew] <;> omega)))
      )
    | (go_at_call 53
       with_reducible refine Calls.mono (Hu.out _ ?_) ?_
       · exact (by repeat (first | exact Bel.refl _ | assumption | refine Bel.alloc ?_ _ | refine Bel.drew ?_ | refine Bel.set ?_ (by first | exact Nat.le_refl _ | (simp; done) | (simp; omega)) _))
       rintro e w4 ⟨t4, b4, n4, m4, rfl, hT4⟩
       have hw4 : Bel w w4 := Bel.trans (by repeat (first | exact Bel.refl _ | assumption | refine Bel.alloc ?_ _ | refine Bel.drew ?_ | refine Bel.set ?_ (by first | exact Nat.le_refl _ | (simp; done) | (simp; omega)) _)) hT4
       have z4 := hT4.le
       try simp only [World.size_alloc, World.size_setCell, size_drewN, World.size_drew] at z4
       obtain ⟨c4_0, f4_0, l4_0, n4_0, m4_0⟩ := hT4.facts (b := w.heap.size) (by (first | omega | (simp only [World.size_alloc, World.size_setCell, size_drewN, World.size_drew] <;> omega)))
       obtain ⟨c4_1, f4_1, l4_1, n4_1, m4_1⟩ := hw4.facts (b := ad) (by (first | omega | (simp only [World.size_alloc, World.size_setCell, size_drewN, World.size_drew] <;> omega)))
      )
    | (go_at_call 78
       refine (kids_any _ _ _ _).mono ?_
       rintro e wz ⟨bk, rfl, rfl⟩
      )
)
  go_wp2_with fail
  refine bodyPost_ret (v := .agg #[.string ⟨#[105, 102]⟩, .string ⟨#[]⟩, .slice bk 4 4]) (by simp [*, results, Tryz.results53, go_sem]) rfl ⟨_, _, _, _, rfl, (by repeat (first | exact Bel.refl _ | assumption | refine Bel.alloc ?_ _ | refine Bel.drew ?_ | refine Bel.set ?_ (by first | exact Nat.le_refl _ | (simp; done) | (simp; omega)) _))⟩

set_option maxRecDepth 100000 in
set_option maxHeartbeats 4000000 in
theorem cv_forS (p : Int) (x : Option Ast) (y : Option Ast) (z : Option Ast) (u : Ast) (hx : ∀ a, x = some a → CvS a) (hy : ∀ a, y = some a → CvE a) (hz : ∀ a, z = some a → CvS a) (hu : CvB u) : CvS (.forS p x y z u) := by
  intro S v w ha hS hk h0
  obtain ⟨ad, rfl, had, vx, vy, vz, vu, c0, c1, ax, c2, ay, c3, az, c4, au⟩ := At_forS.1 ha
  have hlt := hS ad had
  have hne1 : ¬ ad = w.heap.size := by omega
  have hne2 : ¬ w.heap.size = ad := by omega
  have Hx := hide (cvSO hx ax hS hk h0)
  have Hy := hide (cvEO hy ay hS hk h0)
  have Hz := hide (cvSO hz az hS hk h0)
  have Hu := hide (hu S _ w au hS hk h0)
  have taEmptyStmt := ta_miss ptr_EmptyStmt 214 49 rfl
  have taExprStmt := ta_miss ptr_ExprStmt 214 49 rfl
  have taSendStmt := ta_miss ptr_SendStmt 214 49 rfl
  have taIncDecStmt := ta_miss ptr_IncDecStmt 214 49 rfl
  have taAssignStmt := ta_miss ptr_AssignStmt 214 49 rfl
  have taGoStmt := ta_miss ptr_GoStmt 214 49 rfl
  have taDeferStmt := ta_miss ptr_DeferStmt 214 49 rfl
  have taReturnStmt := ta_miss ptr_ReturnStmt 214 49 rfl
  have taBranchStmt := ta_miss ptr_BranchStmt 214 49 rfl
  have taLabeledStmt := ta_miss ptr_LabeledStmt 214 49 rfl
  have taBlockStmt := ta_miss ptr_BlockStmt 214 49 rfl
  have taIfStmt := ta_miss ptr_IfStmt 214 49 rfl
  have taH := ta_hit ptr_ForStmt 49
  clear ha
  go_enter Tryz.func53, Tryz.ntmps53
  go_wp2_with fail
  go_region_held3 (fun w' => w'.cell? ⟨ad, 1, none⟩ = some vx ∧ w'.cell? ⟨ad, 2, none⟩ = some vy ∧ w'.cell? ⟨ad, 3, none⟩ = some vz ∧ w'.cell? ⟨ad, 4, none⟩ = some (.pointer (some ⟨vu, 0, none⟩))) (go_keep) (first
    | (go_at_call 53
       with_reducible refine Calls.mono (Hx.out _ ?_) ?_
       · exact (by repeat (first | exact Bel.refl _ | assumption | refine Bel.alloc ?_ _ | refine Bel.drew ?_ | refine Bel.set ?_ (by first | exact Nat.le_refl _ | (simp; done) | (simp; omega)) _))
       rintro e w1 ⟨t1, b1, n1, m1, rfl, hT1⟩
       have hw1 : Bel w w1 := Bel.trans (by repeat (first | exact Bel.refl _ | assumption | refine Bel.alloc ?_ _ | refine Bel.drew ?_ | refine Bel.set ?_ (by first | exact Nat.le_refl _ | (simp; done) | (simp; omega)) _)) hT1
       have z1 := hT1.le
       try simp only [World.size_alloc, World.size_setCell, size_drewN, World.size_drew] at z1
       obtain ⟨c1_0, f1_0, l1_0, n1_0, m1_0⟩ := hT1.facts (b := w.heap.size) (by (first | omega | (simp only [World.size_alloc, World.size_setCell, size_drewN, World.size_drew] <;> omega)))
       obtain ⟨c1_1, f1_1, l1_1, n1_1, m1_1⟩ := hw1.facts (b := ad) (by (first | omega | (simp only [World.size_alloc, World.size_setCell, size_drewN, World.size_drew] <;> omega)))
      )
    | (go_at_call 54
       with_reducible refine Calls.mono (Hy.out _ ?_) ?_
       · exact (by repeat (first | exact Bel.refl _ | assumption | refine Bel.alloc ?_ _ | refine Bel.drew ?_ | refine Bel.set ?_ (by first | exact Nat.le_refl _ | (simp; done) | (simp; omega)) _))
       rintro e w2 ⟨t2, b2, n2, m2, rfl, hT2⟩
       have hw2 : Bel w w2 := Bel.trans (by repeat (first | exact Bel.refl _ | assumption | refine Bel.alloc ?_ _ | refine Bel.drew ?_ | refine Bel.set ?_ (by first | exact Nat.le_refl _ | (simp; done) | (simp; omega)) _)) hT2
       have z2 := hT2.le
       try simp only [World.size_alloc, World.size_setCell, size_drewN, World.size_drew] at z2
       obtain ⟨c2_0, f2_0, l2_0, n2_0, m2_0⟩ := hT2.facts (b := w.heap.size) (by (first | omega | (simp only [World.size_alloc, World.size_setCell, size_drewN, World.size_drew] <;> omega)))
       obtain ⟨c2_1, f2_1, l2_1, n2_1, m2_1⟩ := hw2.facts (b := ad) (by (first | omega | (simp only [World.size_alloc, World.size_setCell, size_drewN, World.size_drew] <;> omega)))
      )
    | (go_at_call 53
       with_reducible refine Calls.mono (Hz.out _ ?_) ?_
       · exact (by repeat (first | exact Bel.refl _ | assumption | refine Bel.alloc ?_ _ | refine Bel.drew ?_ | refine Bel.set ?_ (by first | exact Nat.le_refl _ | (simp; done) | (simp; omega)) _))
       rintro e w3 ⟨t3, b3, n3, m3, rfl, hT3⟩
       have hw3 : Bel w w3 := Bel.trans (by repeat (first | exact Bel.refl _ | assumption | refine Bel.alloc ?_ _ | refine Bel.drew ?_ | refine Bel.set ?_ (by first | exact Nat.le_refl _ | (simp; done) | (simp; omega)) _)) hT3
       have z3 := hT3.le
       try simp only [World.size_alloc, World.size_setCell, size_drewN, World.size_drew] at z3
       obtain ⟨c3_0, f3_0, l3_0, n3_0, m3_0⟩ := hT3.facts (b := w.heap.size) (by (first | omega | (simp only [World.size_alloc, World.size_setCell, size_drewN, World.size_drew] <;> omega)))
       obtain ⟨c3_1, f3_1, l3_1, n3_1, m3_1⟩ := hw3.facts (b := ad) (by (first | omega | (simp only [World.size_alloc, World.size_setCell, size_drewN, World.size_drew] <;> omega)))
      )
    | (go_at_call 82
       with_reducible refine Calls.mono (Hu.out _ ?_) ?_
       · exact (by repeat (first | exact Bel.refl _ | assumption | refine Bel.alloc ?_ _ | refine Bel.drew ?_ | refine Bel.set ?_ (by first | exact Nat.le_refl _ | (simp; done) | (simp; omega)) _))
       rintro e w4 ⟨t4, b4, n4, m4, rfl, hT4⟩
       have hw4 : Bel w w4 := Bel.trans (by repeat (first | exact Bel.refl _ | assumption | refine Bel.alloc ?_ _ | refine Bel.drew ?_ | refine Bel.set ?_ (by first | exact Nat.le_refl _ | (simp; done) | (simp; omega)) _)) hT4
       have z4 := hT4.le
       try simp only [World.size_alloc, World.size_setCell, size_drewN, World.size_drew] at z4
       obtain ⟨c4_0, f4_0, l4_0, n4_0, m4_0⟩ := hT4.facts (b := w.heap.size) (by (first | omega | (simp only [World.size_alloc, World.size_setCell, size_drewN, World.size_drew] <;> omega)))
       obtain ⟨c4_1, f4_1, l4_1, n4_1, m4_1⟩ := hw4.facts (b := ad) (by (first | omega | (simp only [World.size_alloc, World.size_setCell, size_drewN, World.size_drew] <;> omega)))
      )
    | (go_at_call 78
       refine (kids_any _ _ _ _).mono ?_
       rintro e wz ⟨bk, rfl, rfl⟩
      )
)
  go_wp2_with fail
  refine bodyPost_ret (v := .agg #[.string ⟨#[102, 111, 114]⟩, .string ⟨#[]⟩, .slice bk 4 4]) (by simp [*, results, Tryz.results53, go_sem]) rfl ⟨_, _, _, _, rfl, (by repeat (first | exact Bel.refl _ | assumption | refine Bel.alloc ?_ _ | refine Bel.drew ?_ | refine Bel.set ?_ (by first | exact Nat.le_refl _ | (simp; done) | (simp; omega)) _))⟩

set_option maxRecDepth 100000 in
set_option maxHeartbeats 4000000 in
theorem cv_commC (p : Int) (x : Option Ast) (c : Int) (b : List Ast) (hx : ∀ a, x = some a → CvS a) (hhb : ∀ z, z ∈ b → CvS z) (hlb : b.length ≤ 400) : CvS (.commC p x c b) := by
  intro S v w ha hS hk h0
  obtain ⟨ad, rfl, had, vx, vb, c0, c1, ax, c2, c3, ab⟩ := At_commC.1 ha
  have hlt := hS ad had
  have hne1 : ¬ ad = w.heap.size := by omega
  have hne2 : ¬ w.heap.size = ad := by omega
  have Hx := hide (cvSO hx ax hS hk h0)
  have Hb := hide (clause_any hhb hlb ab hS hk h0)
  have taEmptyStmt := ta_miss ptr_EmptyStmt 208 49 rfl
  have taExprStmt := ta_miss ptr_ExprStmt 208 49 rfl
  have taSendStmt := ta_miss ptr_SendStmt 208 49 rfl
  have taIncDecStmt := ta_miss ptr_IncDecStmt 208 49 rfl
  have taAssignStmt := ta_miss ptr_AssignStmt 208 49 rfl
  have taGoStmt := ta_miss ptr_GoStmt 208 49 rfl
  have taDeferStmt := ta_miss ptr_DeferStmt 208 49 rfl
  have taReturnStmt := ta_miss ptr_ReturnStmt 208 49 rfl
  have taBranchStmt := ta_miss ptr_BranchStmt 208 49 rfl
  have taLabeledStmt := ta_miss ptr_LabeledStmt 208 49 rfl
  have taBlockStmt := ta_miss ptr_BlockStmt 208 49 rfl
  have taIfStmt := ta_miss ptr_IfStmt 208 49 rfl
  have taForStmt := ta_miss ptr_ForStmt 208 49 rfl
  have taRangeStmt := ta_miss ptr_RangeStmt 208 49 rfl
  have taSwitchStmt := ta_miss ptr_SwitchStmt 208 49 rfl
  have taTypeSwitchStmt := ta_miss ptr_TypeSwitchStmt 208 49 rfl
  have taSelectStmt := ta_miss ptr_SelectStmt 208 49 rfl
  have taCaseClause := ta_miss ptr_CaseClause 208 49 rfl
  have taH := ta_hit ptr_CommClause 49
  clear ha
  go_enter Tryz.func53, Tryz.ntmps53
  go_wp2_with fail
  go_region_held3 (fun w' => w'.cell? ⟨ad, 1, none⟩ = some vx ∧ w'.cell? ⟨ad, 3, none⟩ = some vb) (go_keep) (first
    | (go_at_call 53
       with_reducible refine Calls.mono (Hx.out _ ?_) ?_
       · exact (by repeat (first | exact Bel.refl _ | assumption | refine Bel.alloc ?_ _ | refine Bel.drew ?_ | refine Bel.set ?_ (by first | exact Nat.le_refl _ | (simp; done) | (simp; omega)) _))
       rintro e w1 ⟨t1, b1, n1, m1, rfl, hT1⟩
       have hw1 : Bel w w1 := Bel.trans (by repeat (first | exact Bel.refl _ | assumption | refine Bel.alloc ?_ _ | refine Bel.drew ?_ | refine Bel.set ?_ (by first | exact Nat.le_refl _ | (simp; done) | (simp; omega)) _)) hT1
       have z1 := hT1.le
       try simp only [World.size_alloc, World.size_setCell, size_drewN, World.size_drew] at z1
       obtain ⟨c1_0, f1_0, l1_0, n1_0, m1_0⟩ := hT1.facts (b := w.heap.size) (by (first | omega | (simp only [World.size_alloc, World.size_setCell, size_drewN, World.size_drew] <;> omega)))
       obtain ⟨c1_1, f1_1, l1_1, n1_1, m1_1⟩ := hw1.facts (b := ad) (by (first | omega | (simp only [World.size_alloc, World.size_setCell, size_drewN, World.size_drew] <;> omega)))
      )
    | (go_at_call 83
       with_reducible refine Calls.mono (Hb.out _ _ _ _ _ _ ?_) ?_
       · exact (by repeat (first | exact Bel.refl _ | assumption | refine Bel.alloc ?_ _ | refine Bel.drew ?_ | refine Bel.set ?_ (by first | exact Nat.le_refl _ | (simp; done) | (simp; omega)) _))
       rintro e w2 ⟨t2, b2, n2, m2, rfl, hT2⟩
       have hw2 : Bel w w2 := Bel.trans (by repeat (first | exact Bel.refl _ | assumption | refine Bel.alloc ?_ _ | refine Bel.drew ?_ | refine Bel.set ?_ (by first | exact Nat.le_refl _ | (simp; done) | (simp; omega)) _)) hT2
       have z2 := hT2.le
       try simp only [World.size_alloc, World.size_setCell, size_drewN, World.size_drew] at z2
       obtain ⟨c2_0, f2_0, l2_0, n2_0, m2_0⟩ := hT2.facts (b := w.heap.size) (by (first | omega | (simp only [World.size_alloc, World.size_setCell, size_drewN, World.size_drew] <;> omega)))
       obtain ⟨c2_1, f2_1, l2_1, n2_1, m2_1⟩ := hw2.facts (b := ad) (by (first | omega | (simp only [World.size_alloc, World.size_setCell, size_drewN, World.size_drew] <;> omega)))
      )
)
  go_wp2_with fail
  refine bodyPost_ret (v := .agg #[.string ⟨#[99, 108, 97, 117, 115, 101]⟩, .string t2, .slice b2 n2 m2]) (by simp [*, results, Tryz.results53, go_sem]) rfl ⟨_, _, _, _, rfl, (by repeat (first | exact Bel.refl _ | assumption | refine Bel.alloc ?_ _ | refine Bel.drew ?_ | refine Bel.set ?_ (by first | exact Nat.le_refl _ | (simp; done) | (simp; omega)) _))⟩

end Go.Proofs.YtkkgfgllfbahlaaGreatFmt
