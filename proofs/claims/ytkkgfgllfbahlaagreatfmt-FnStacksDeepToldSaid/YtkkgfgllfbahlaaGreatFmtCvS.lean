/- impl.stmt at each kind (printed by gen_cv.py). -/
import Derived.Test.YtkkgfgllfbahlaaGreatFmtCvE
import Derived.Test.YtkkgfgllfbahlaaGreatFmtBU
import Derived.Deep.RegionHeld3
set_option linter.unusedVariables false
set_option linter.unusedSimpArgs false
namespace Go.Proofs.YtkkgfgllfbahlaaGreatFmt
open Go Go.RowKit
set_option linter.unusedSimpArgs false

set_option maxRecDepth 100000 in
set_option maxHeartbeats 4000000 in
theorem cv_exprS (x : Ast) (hx : CvE x) : CvS (.exprS x) := by
  intro S v w ha hS hk h0
  obtain ⟨ad, rfl, had, vx, c0, ax⟩ := At_exprS.1 ha
  have hlt := hS ad had
  have hne1 : ¬ ad = w.heap.size := by omega
  have hne2 : ¬ w.heap.size = ad := by omega
  have Hx := hide (hx.at ax hS hk h0)
  have taEmptyStmt := ta_miss ptr_EmptyStmt 168 49 rfl
  have taH := ta_hit ptr_ExprStmt 49
  clear ha
  go_enter Tryz.func53, Tryz.ntmps53
  go_wp2_with fail
  with_reducible refine Calls.mono (Hx.out _ ?_) ?_
  · exact (by repeat (first | exact Bel.refl _ | assumption | refine Bel.alloc ?_ _ | refine Bel.drew ?_ | refine Bel.set ?_ (by first | exact Nat.le_refl _ | (simp; done) | (simp; omega)) _))
  rintro e w1 ⟨t1, b1, n1, m1, rfl, hT1⟩
  have hw1 : Bel w w1 := Bel.trans (by repeat (first | exact Bel.refl _ | assumption | refine Bel.alloc ?_ _ | refine Bel.drew ?_ | refine Bel.set ?_ (by first | exact Nat.le_refl _ | (simp; done) | (simp; omega)) _)) hT1
  have z1 := hT1.le
  try simp only [World.size_alloc, World.size_setCell, size_drewN, World.size_drew] at z1
  obtain ⟨c1_0, f1_0, l1_0, n1_0, m1_0⟩ := hT1.facts (b := w.heap.size) (by (first | omega | (simp only [World.size_alloc, World.size_setCell, size_drewN, World.size_drew] <;> omega)))
  obtain ⟨c1_1, f1_1, l1_1, n1_1, m1_1⟩ := hw1.facts (b := ad) (by (first | omega | (simp only [World.size_alloc, World.size_setCell, size_drewN, World.size_drew] <;> omega)))
  go_wp2_with fail
  refine (kids_any _ _ _ _).mono ?_
  rintro e wz ⟨bk, rfl, rfl⟩
  go_wp2_with fail
  refine bodyPost_ret (v := .agg #[.string ⟨#[101, 120, 112, 114, 101, 115, 115, 105, 111, 110]⟩, .string ⟨#[]⟩, .slice bk 1 1]) (by simp [*, results, Tryz.results53, go_sem]) rfl ⟨_, _, _, _, rfl, (by repeat (first | exact Bel.refl _ | assumption | refine Bel.alloc ?_ _ | refine Bel.drew ?_ | refine Bel.set ?_ (by first | exact Nat.le_refl _ | (simp; done) | (simp; omega)) _))⟩

set_option maxRecDepth 100000 in
set_option maxHeartbeats 4000000 in
theorem cv_send (x : Ast) (p : Int) (y : Ast) (hx : CvE x) (hy : CvE y) : CvS (.send x p y) := by
  intro S v w ha hS hk h0
  obtain ⟨ad, rfl, had, vx, vy, c0, ax, c1, c2, ay⟩ := At_send.1 ha
  have hlt := hS ad had
  have hne1 : ¬ ad = w.heap.size := by omega
  have hne2 : ¬ w.heap.size = ad := by omega
  have Hx := hide (hx.at ax hS hk h0)
  have Hy := hide (hy.at ay hS hk h0)
  have taEmptyStmt := ta_miss ptr_EmptyStmt 171 49 rfl
  have taExprStmt := ta_miss ptr_ExprStmt 171 49 rfl
  have taH := ta_hit ptr_SendStmt 49
  clear ha
  go_enter Tryz.func53, Tryz.ntmps53
  go_wp2_with fail
  go_region_held3 (fun w' => w'.cell? ⟨ad, 0, none⟩ = some vx ∧ w'.cell? ⟨ad, 2, none⟩ = some vy) (go_keep) (first
    | (go_at_call 54
       with_reducible refine Calls.mono (Hx.out _ ?_) ?_
       · exact (by repeat (first | exact Bel.refl _ | assumption | refine Bel.alloc ?_ _ | refine Bel.drew ?_ | refine Bel.set ?_ (by first | exact Nat.le_refl _ | (simp; done) | (simp; omega)) _))
       rintro e w1 ⟨t1, b1, n1, m1, rfl, hT1⟩
       have hw1 : Bel w w1 := Bel.trans (by repeat (first | exact Bel.refl _ | assumption | refine Bel.alloc ?_ _ | refine Bel.drew ?_ | refine Bel.set ?_ (by first | exact Nat.le_refl _ | (simp; done) | (simp; omega)) _)) hT1
       have z1 := hT1.le
       try simp only [World.size_alloc, World.size_setCell, size_drewN, World.size_drew] at z1
       obtain ⟨c1_0, f1_0, l1_0, n1_0, m1_0⟩ := hT1.facts (b := w.heap.size) (by (first | omega | (simp only [World.size_alloc, World.size_setCell, size_drewN, World.size_drew] <;> omega)))
       obtain ⟨c1_1, f1_1, l1_1, n1_1, m1_1⟩ := hw1.facts (b := ad) (by (first | omega | (simp only [World.size_alloc, World.size_setCell, size_drewN, World.size_drew] <;> omega)))
      )
    | (go_at_call 54
       with_reducible refine Calls.mono (Hy.out _ ?_) ?_
       · exact (by repeat (first | exact Bel.refl _ | assumption | refine Bel.alloc ?_ _ | refine Bel.drew ?_ | refine Bel.set ?_ (by first | exact Nat.le_refl _ | (simp; done) | (simp; omega)) _))
       rintro e w2 ⟨t2, b2, n2, m2, rfl, hT2⟩
       have hw2 : Bel w w2 := Bel.trans (by repeat (first | exact Bel.refl _ | assumption | refine Bel.alloc ?_ _ | refine Bel.drew ?_ | refine Bel.set ?_ (by first | exact Nat.le_refl _ | (simp; done) | (simp; omega)) _)) hT2
       have z2 := hT2.le
       try simp only [World.size_alloc, World.size_setCell, size_drewN, World.size_drew] at z2
       obtain ⟨c2_0, f2_0, l2_0, n2_0, m2_0⟩ := hT2.facts (b := w.heap.size) (by (first | omega | (simp only [World.size_alloc, World.size_setCell, size_drewN, World.size_drew] <;> omega)))
       obtain ⟨c2_1, f2_1, l2_1, n2_1, m2_1⟩ := hw2.facts (b := ad) (by (first | omega | (simp only [World.size_alloc, World.size_setCell, size_drewN, World.size_drew] <;> omega)))
      )
    | (go_at_call 78
       refine (kids_any _ _ _ _).mono ?_
       rintro e wz ⟨bk, rfl, rfl⟩
      )
)
  go_wp2_with fail
  refine bodyPost_ret (v := .agg #[.string ⟨#[115, 101, 110, 100]⟩, .string ⟨#[]⟩, .slice bk 2 2]) (by simp [*, results, Tryz.results53, go_sem]) rfl ⟨_, _, _, _, rfl, (by repeat (first | exact Bel.refl _ | assumption | refine Bel.alloc ?_ _ | refine Bel.drew ?_ | refine Bel.set ?_ (by first | exact Nat.le_refl _ | (simp; done) | (simp; omega)) _))⟩

set_option maxRecDepth 100000 in
set_option maxHeartbeats 4000000 in
theorem cv_step (x : Ast) (p : Int) (t : Int) (ht : tokR t) (hx : CvE x) : CvS (.step x p t) := by
  intro S v w ha hS hk h0
  obtain ⟨ad, rfl, had, vx, c0, ax, c1, c2⟩ := At_step.1 ha
  have hlt := hS ad had
  have hne1 : ¬ ad = w.heap.size := by omega
  have hne2 : ¬ w.heap.size = ad := by omega
  have Hx := hide (hx.at ax hS hk h0)
  have Ht := hide (tok_at ht hk h0)
  have taEmptyStmt := ta_miss ptr_EmptyStmt 174 49 rfl
  have taExprStmt := ta_miss ptr_ExprStmt 174 49 rfl
  have taSendStmt := ta_miss ptr_SendStmt 174 49 rfl
  have taH := ta_hit ptr_IncDecStmt 49
  clear ha
  go_enter Tryz.func53, Tryz.ntmps53
  go_wp2_with fail
  go_region_held3 (fun w' => w'.cell? ⟨ad, 0, none⟩ = some vx ∧ w'.cell? ⟨ad, 2, none⟩ = some (.int .i64 t)) (go_keep) (first
    | (go_at_call 79
       with_reducible refine Calls.mono (Ht.out _ ?_) ?_
       · exact (by repeat (first | exact Bel.refl _ | assumption | refine Bel.alloc ?_ _ | refine Bel.drew ?_ | refine Bel.set ?_ (by first | exact Nat.le_refl _ | (simp; done) | (simp; omega)) _))
       rintro e wz ⟨ts, rfl, rfl⟩
      )
    | (go_at_call 54
       with_reducible refine Calls.mono (Hx.out _ ?_) ?_
       · exact (by repeat (first | exact Bel.refl _ | assumption | refine Bel.alloc ?_ _ | refine Bel.drew ?_ | refine Bel.set ?_ (by first | exact Nat.le_refl _ | (simp; done) | (simp; omega)) _))
       rintro e w1 ⟨t1, b1, n1, m1, rfl, hT1⟩
       have hw1 : Bel w w1 := Bel.trans (by repeat (first | exact Bel.refl _ | assumption | refine Bel.alloc ?_ _ | refine Bel.drew ?_ | refine Bel.set ?_ (by first | exact Nat.le_refl _ | (simp; done) | (simp; omega)) _)) hT1
       have z1 := hT1.le
       try simp only [World.size_alloc, World.size_setCell, size_drewN, World.size_drew] at z1
       obtain ⟨c1_0, f1_0, l1_0, n1_0, m1_0⟩ := hT1.facts (b := w.heap.size) (by (first | omega | (simp only [World.size_alloc, World.size_setCell, size_drewN, World.size_drew] <;> omega)))
       obtain ⟨c1_1, f1_1, l1_1, n1_1, m1_1⟩ := hw1.facts (b := ad) (by (first | omega | (simp only [World.size_alloc, World.size_setCell, size_drewN, World.size_drew] <;> omega)))
      )
    | (go_at_call 78
       refine (kids_any _ _ _ _).mono ?_
       rintro e wz ⟨bk, rfl, rfl⟩
      )
)
  go_wp2_with fail
  refine bodyPost_ret (v := .agg #[.string ⟨#[115, 116, 101, 112]⟩, .string ts, .slice bk 1 1]) (by simp [*, results, Tryz.results53, go_sem]) rfl ⟨_, _, _, _, rfl, (by repeat (first | exact Bel.refl _ | assumption | refine Bel.alloc ?_ _ | refine Bel.drew ?_ | refine Bel.set ?_ (by first | exact Nat.le_refl _ | (simp; done) | (simp; omega)) _))⟩

set_option maxRecDepth 100000 in
set_option maxHeartbeats 4000000 in
theorem cv_assign (a : List Ast) (p : Int) (t : Int) (b : List Ast) (ht : tokR t) (hha : ∀ z, z ∈ a → CvE z) (hla : a.length ≤ 400) (hhb : ∀ z, z ∈ b → CvE z) (hlb : b.length ≤ 400) : CvS (.assign a p t b) := by
  intro S v w ha hS hk h0
  obtain ⟨ad, rfl, had, va, vb, c0, aa, c1, c2, c3, ab⟩ := At_assign.1 ha
  have hlt := hS ad had
  have hne1 : ¬ ad = w.heap.size := by omega
  have hne2 : ¬ w.heap.size = ad := by omega
  have Ha := hide (exprs_any hha hla aa hS hk h0)
  have Hb := hide (exprs_any hhb hlb ab hS hk h0)
  have Ht := hide (tok_at ht hk h0)
  have taEmptyStmt := ta_miss ptr_EmptyStmt 177 49 rfl
  have taExprStmt := ta_miss ptr_ExprStmt 177 49 rfl
  have taSendStmt := ta_miss ptr_SendStmt 177 49 rfl
  have taIncDecStmt := ta_miss ptr_IncDecStmt 177 49 rfl
  have taH := ta_hit ptr_AssignStmt 49
  clear ha
  go_enter Tryz.func53, Tryz.ntmps53
  go_wp2_with fail
  go_region_held3 (fun w' => w'.cell? ⟨ad, 0, none⟩ = some va ∧ w'.cell? ⟨ad, 2, none⟩ = some (.int .i64 t) ∧ w'.cell? ⟨ad, 3, none⟩ = some vb) (go_keep) (first
    | (go_at_call 79
       with_reducible refine Calls.mono (Ht.out _ ?_) ?_
       · exact (by repeat (first | exact Bel.refl _ | assumption | refine Bel.alloc ?_ _ | refine Bel.drew ?_ | refine Bel.set ?_ (by first | exact Nat.le_refl _ | (simp; done) | (simp; omega)) _))
       rintro e wz ⟨ts, rfl, rfl⟩
      )
    | (go_at_call 80
       with_reducible refine Calls.mono (Ha.out _ ?_) ?_
       · exact (by repeat (first | exact Bel.refl _ | assumption | refine Bel.alloc ?_ _ | refine Bel.drew ?_ | refine Bel.set ?_ (by first | exact Nat.le_refl _ | (simp; done) | (simp; omega)) _))
       rintro e w1 ⟨t1, b1, n1, m1, rfl, hT1⟩
       have hw1 : Bel w w1 := Bel.trans (by repeat (first | exact Bel.refl _ | assumption | refine Bel.alloc ?_ _ | refine Bel.drew ?_ | refine Bel.set ?_ (by first | exact Nat.le_refl _ | (simp; done) | (simp; omega)) _)) hT1
       have z1 := hT1.le
       try simp only [World.size_alloc, World.size_setCell, size_drewN, World.size_drew] at z1
       obtain ⟨c1_0, f1_0, l1_0, n1_0, m1_0⟩ := hT1.facts (b := w.heap.size) (by (first | omega | (simp only [World.size_alloc, World.size_setCell, size_drewN, World.size_drew] <;> omega)))
       obtain ⟨c1_1, f1_1, l1_1, n1_1, m1_1⟩ := hw1.facts (b := ad) (by (first | omega | (simp only [World.size_alloc, World.size_setCell, size_drewN, World.size_drew] <;> omega)))
      )
    | (go_at_call 80
       with_reducible refine Calls.mono (Hb.out _ ?_) ?_
       · exact (by repeat (first | exact Bel.refl _ | assumption | refine Bel.alloc ?_ _ | refine Bel.drew ?_ | refine Bel.set ?_ (by first | exact Nat.le_refl _ | (simp; done) | (simp; omega)) _))
       rintro e w2 ⟨t2, b2, n2, m2, rfl, hT2⟩
       have hw2 : Bel w w2 := Bel.trans (by repeat (first | exact Bel.refl _ | assumption | refine Bel.alloc ?_ _ | refine Bel.drew ?_ | refine Bel.set ?_ (by first | exact Nat.le_refl _ | (simp; done) | (simp; omega)) _)) hT2
       have z2 := hT2.le
       try simp only [World.size_alloc, World.size_setCell, size_drewN, World.size_drew] at z2
       obtain ⟨c2_0, f2_0, l2_0, n2_0, m2_0⟩ := hT2.facts (b := w.heap.size) (by (first | omega | (simp only [World.size_alloc, World.size_setCell, size_drewN, World.size_drew] <;> omega)))
       obtain ⟨c2_1, f2_1, l2_1, n2_1, m2_1⟩ := hw2.facts (b := ad) (by (first | omega | (simp only [World.size_alloc, World.size_setCell, size_drewN, World.size_drew] <;> omega)))
      )
    | (go_at_call 78
       refine (kids_any _ _ _ _).mono ?_
       rintro e wz ⟨bk, rfl, rfl⟩
      )
)
  go_wp2_with fail
  refine bodyPost_ret (v := .agg #[.string ⟨#[97, 115, 115, 105, 103, 110]⟩, .string ts, .slice bk 2 2]) (by simp [*, results, Tryz.results53, go_sem]) rfl ⟨_, _, _, _, rfl, (by repeat (first | exact Bel.refl _ | assumption | refine Bel.alloc ?_ _ | refine Bel.drew ?_ | refine Bel.set ?_ (by first | exact Nat.le_refl _ | (simp; done) | (simp; omega)) _))⟩

set_option maxRecDepth 100000 in
set_option maxHeartbeats 4000000 in
theorem cv_goS (p : Int) (x : Ast) (hx : CvE x) : CvS (.goS p x) := by
  intro S v w ha hS hk h0
  obtain ⟨ad, rfl, had, vx, c0, c1, ax⟩ := At_goS.1 ha
  have hlt := hS ad had
  have hne1 : ¬ ad = w.heap.size := by omega
  have hne2 : ¬ w.heap.size = ad := by omega
  have Hx := hide (hx.at ax hS hk h0)
  have taEmptyStmt := ta_miss ptr_EmptyStmt 180 49 rfl
  have taExprStmt := ta_miss ptr_ExprStmt 180 49 rfl
  have taSendStmt := ta_miss ptr_SendStmt 180 49 rfl
  have taIncDecStmt := ta_miss ptr_IncDecStmt 180 49 rfl
  have taAssignStmt := ta_miss ptr_AssignStmt 180 49 rfl
  have taH := ta_hit ptr_GoStmt 49
  clear ha
  go_enter Tryz.func53, Tryz.ntmps53
  go_wp2_with fail
  with_reducible refine Calls.mono (Hx.out _ ?_) ?_
  · exact (by repeat (first | exact Bel.refl _ | assumption | refine Bel.alloc ?_ _ | refine Bel.drew ?_ | refine Bel.set ?_ (by first | exact Nat.le_refl _ | (simp; done) | (simp; omega)) _))
  rintro e w1 ⟨t1, b1, n1, m1, rfl, hT1⟩
  have hw1 : Bel w w1 := Bel.trans (by repeat (first | exact Bel.refl _ | assumption | refine Bel.alloc ?_ _ | refine Bel.drew ?_ | refine Bel.set ?_ (by first | exact Nat.le_refl _ | (simp; done) | (simp; omega)) _)) hT1
  have z1 := hT1.le
  try simp only [World.size_alloc, World.size_setCell, size_drewN, World.size_drew] at z1
  obtain ⟨c1_0, f1_0, l1_0, n1_0, m1_0⟩ := hT1.facts (b := w.heap.size) (by (first | omega | (simp only [World.size_alloc, World.size_setCell, size_drewN, World.size_drew] <;> omega)))
  obtain ⟨c1_1, f1_1, l1_1, n1_1, m1_1⟩ := hw1.facts (b := ad) (by (first | omega | (simp only [World.size_alloc, World.size_setCell, size_drewN, World.size_drew] <;> omega)))
  go_wp2_with fail
  refine (kids_any _ _ _ _).mono ?_
  rintro e wz ⟨bk, rfl, rfl⟩
  go_wp2_with fail
  refine bodyPost_ret (v := .agg #[.string ⟨#[103, 111]⟩, .string ⟨#[]⟩, .slice bk 1 1]) (by simp [*, results, Tryz.results53, go_sem]) rfl ⟨_, _, _, _, rfl, (by repeat (first | exact Bel.refl _ | assumption | refine Bel.alloc ?_ _ | refine Bel.drew ?_ | refine Bel.set ?_ (by first | exact Nat.le_refl _ | (simp; done) | (simp; omega)) _))⟩

set_option maxRecDepth 100000 in
set_option maxHeartbeats 4000000 in
theorem cv_deferS (p : Int) (x : Ast) (hx : CvE x) : CvS (.deferS p x) := by
  intro S v w ha hS hk h0
  obtain ⟨ad, rfl, had, vx, c0, c1, ax⟩ := At_deferS.1 ha
  have hlt := hS ad had
  have hne1 : ¬ ad = w.heap.size := by omega
  have hne2 : ¬ w.heap.size = ad := by omega
  have Hx := hide (hx.at ax hS hk h0)
  have taEmptyStmt := ta_miss ptr_EmptyStmt 183 49 rfl
  have taExprStmt := ta_miss ptr_ExprStmt 183 49 rfl
  have taSendStmt := ta_miss ptr_SendStmt 183 49 rfl
  have taIncDecStmt := ta_miss ptr_IncDecStmt 183 49 rfl
  have taAssignStmt := ta_miss ptr_AssignStmt 183 49 rfl
  have taGoStmt := ta_miss ptr_GoStmt 183 49 rfl
  have taH := ta_hit ptr_DeferStmt 49
  clear ha
  go_enter Tryz.func53, Tryz.ntmps53
  go_wp2_with fail
  with_reducible refine Calls.mono (Hx.out _ ?_) ?_
  · exact (by repeat (first | exact Bel.refl _ | assumption | refine Bel.alloc ?_ _ | refine Bel.drew ?_ | refine Bel.set ?_ (by first | exact Nat.le_refl _ | (simp; done) | (simp; omega)) _))
  rintro e w1 ⟨t1, b1, n1, m1, rfl, hT1⟩
  have hw1 : Bel w w1 := Bel.trans (by repeat (first | exact Bel.refl _ | assumption | refine Bel.alloc ?_ _ | refine Bel.drew ?_ | refine Bel.set ?_ (by first | exact Nat.le_refl _ | (simp; done) | (simp; omega)) _)) hT1
  have z1 := hT1.le
  try simp only [World.size_alloc, World.size_setCell, size_drewN, World.size_drew] at z1
  obtain ⟨c1_0, f1_0, l1_0, n1_0, m1_0⟩ := hT1.facts (b := w.heap.size) (by (first | omega | (simp only [World.size_alloc, World.size_setCell, size_drewN, World.size_drew] <;> omega)))
  obtain ⟨c1_1, f1_1, l1_1, n1_1, m1_1⟩ := hw1.facts (b := ad) (by (first | omega | (simp only [World.size_alloc, World.size_setCell, size_drewN, World.size_drew] <;> omega)))
  go_wp2_with fail
  refine (kids_any _ _ _ _).mono ?_
  rintro e wz ⟨bk, rfl, rfl⟩
  go_wp2_with fail
  refine bodyPost_ret (v := .agg #[.string ⟨#[100, 101, 102, 101, 114]⟩, .string ⟨#[]⟩, .slice bk 1 1]) (by simp [*, results, Tryz.results53, go_sem]) rfl ⟨_, _, _, _, rfl, (by repeat (first | exact Bel.refl _ | assumption | refine Bel.alloc ?_ _ | refine Bel.drew ?_ | refine Bel.set ?_ (by first | exact Nat.le_refl _ | (simp; done) | (simp; omega)) _))⟩

set_option maxRecDepth 100000 in
set_option maxHeartbeats 4000000 in
theorem cv_ret (p : Int) (a : List Ast) (hha : ∀ z, z ∈ a → CvE z) (hla : a.length ≤ 400) : CvS (.ret p a) := by
  intro S v w ha hS hk h0
  obtain ⟨ad, rfl, had, va, c0, c1, aa⟩ := At_ret.1 ha
  have hlt := hS ad had
  have hne1 : ¬ ad = w.heap.size := by omega
  have hne2 : ¬ w.heap.size = ad := by omega
  have Ha := hide (fl1 hha hla aa hS hk h0)
  have taEmptyStmt := ta_miss ptr_EmptyStmt 186 49 rfl
  have taExprStmt := ta_miss ptr_ExprStmt 186 49 rfl
  have taSendStmt := ta_miss ptr_SendStmt 186 49 rfl
  have taIncDecStmt := ta_miss ptr_IncDecStmt 186 49 rfl
  have taAssignStmt := ta_miss ptr_AssignStmt 186 49 rfl
  have taGoStmt := ta_miss ptr_GoStmt 186 49 rfl
  have taDeferStmt := ta_miss ptr_DeferStmt 186 49 rfl
  have taH := ta_hit ptr_ReturnStmt 49
  clear ha
  go_enter Tryz.func53, Tryz.ntmps53
  go_wp2_with fail
  with_reducible refine Calls.mono (Ha.out _ ?_) ?_
  · exact (by repeat (first | exact Bel.refl _ | assumption | refine Bel.alloc ?_ _ | refine Bel.drew ?_ | refine Bel.set ?_ (by first | exact Nat.le_refl _ | (simp; done) | (simp; omega)) _))
  rintro e w1 ⟨v1, vs1, rfl, hown1, hT1, -⟩
  obtain ⟨b1, d1, rfl⟩ := own_slice hown1
  clear hown1
  have hw1 : Bel w w1 := Bel.trans (by repeat (first | exact Bel.refl _ | assumption | refine Bel.alloc ?_ _ | refine Bel.drew ?_ | refine Bel.set ?_ (by first | exact Nat.le_refl _ | (simp; done) | (simp; omega)) _)) hT1
  have z1 := hT1.le
  try simp only [World.size_alloc, World.size_setCell, size_drewN, World.size_drew] at z1
  obtain ⟨c1_0, f1_0, l1_0, n1_0, m1_0⟩ := hT1.facts (b := w.heap.size) (by (first | omega | (simp only [World.size_alloc, World.size_setCell, size_drewN, World.size_drew] <;> omega)))
  obtain ⟨c1_1, f1_1, l1_1, n1_1, m1_1⟩ := hw1.facts (b := ad) (by (first | omega | (simp only [World.size_alloc, World.size_setCell, size_drewN, World.size_drew] <;> omega)))
  go_wp2_with fail
  refine bodyPost_ret (v := .agg #[.string ⟨#[114, 101, 116, 117, 114, 110]⟩, .string ⟨#[]⟩, .slice b1 a.length d1]) (by simp [*, results, Tryz.results53, go_sem]) rfl ⟨_, _, _, _, rfl, (by repeat (first | exact Bel.refl _ | assumption | refine Bel.alloc ?_ _ | refine Bel.drew ?_ | refine Bel.set ?_ (by first | exact Nat.le_refl _ | (simp; done) | (simp; omega)) _))⟩

set_option maxRecDepth 100000 in
set_option maxHeartbeats 4000000 in
theorem cv_label (x : Ast) (c : Int) (y : Ast) (hy : CvS y) : CvS (.label x c y) := by
  intro S v w ha hS hk h0
  obtain ⟨ad, rfl, had, vx, vy, c0, ax, c1, c2, ay⟩ := At_label.1 ha
  have hlt := hS ad had
  have hne1 : ¬ ad = w.heap.size := by omega
  have hne2 : ¬ w.heap.size = ad := by omega
  obtain ⟨sn, hvx, cn⟩ := ax.name
  have hltn := hS vx hvx
  have hnn1 : ¬ vx = w.heap.size := by omega
  have hnn2 : ¬ w.heap.size = vx := by omega
  have Hy := hide (hy.at ay hS hk h0)
  have taEmptyStmt := ta_miss ptr_EmptyStmt 165 49 rfl
  have taExprStmt := ta_miss ptr_ExprStmt 165 49 rfl
  have taSendStmt := ta_miss ptr_SendStmt 165 49 rfl
  have taIncDecStmt := ta_miss ptr_IncDecStmt 165 49 rfl
  have taAssignStmt := ta_miss ptr_AssignStmt 165 49 rfl
  have taGoStmt := ta_miss ptr_GoStmt 165 49 rfl
  have taDeferStmt := ta_miss ptr_DeferStmt 165 49 rfl
  have taReturnStmt := ta_miss ptr_ReturnStmt 165 49 rfl
  have taBranchStmt := ta_miss ptr_BranchStmt 165 49 rfl
  have taH := ta_hit ptr_LabeledStmt 49
  clear ha
  go_enter Tryz.func53, Tryz.ntmps53
  go_wp2_with fail
  go_region_held3 (fun w' => w'.cell? ⟨ad, 0, none⟩ = some (.pointer (some ⟨vx, 0, none⟩)) ∧ w'.cell? ⟨vx, 1, none⟩ = some (.string sn) ∧ w'.cell? ⟨ad, 2, none⟩ = some vy) (go_keep) (first
    | (go_at_call 53
       with_reducible refine Calls.mono (Hy.out _ ?_) ?_
       · exact (by repeat (first | exact Bel.refl _ | assumption | refine Bel.alloc ?_ _ | refine Bel.drew ?_ | refine Bel.set ?_ (by first | exact Nat.le_refl _ | (simp; done) | (simp; omega)) _))
       rintro e w1 ⟨t1, b1, n1, m1, rfl, hT1⟩
       have hw1 : Bel w w1 := Bel.trans (by repeat (first | exact Bel.refl _ | assumption | refine Bel.alloc ?_ _ | refine Bel.drew ?_ | refine Bel.set ?_ (by first | exact Nat.le_refl _ | (simp; done) | (simp; omega)) _)) hT1
       have z1 := hT1.le
       try simp only [World.size_alloc, World.size_setCell, size_drewN, World.size_drew] at z1
       obtain ⟨c1_0, f1_0, l1_0, n1_0, m1_0⟩ := hT1.facts (b := w.heap.size) (by (first | omega | (simp only [World.size_alloc, World.size_setCell, size_drewN, World.size_drew] <;> omega)))
       obtain ⟨c1_1, f1_1, l1_1, n1_1, m1_1⟩ := hw1.facts (b := ad) (by (first | omega | (simp only [World.size_alloc, World.size_setCell, size_drewN, World.size_drew] <;> omega)))
       obtain ⟨c1_2, f1_2, l1_2, n1_2, m1_2⟩ := hw1.facts (b := vx) (by (first | omega | (simp only [World.size_alloc, World.size_setCell, size_drewN, World.size_drew] <;> omega)))
      )
    | (go_at_call 78
       refine (kids_any _ _ _ _).mono ?_
       rintro e wz ⟨bk, rfl, rfl⟩
      )
)
  go_wp2_with fail
  refine bodyPost_ret (v := .agg #[.string ⟨#[108, 97, 98, 101, 108]⟩, .string sn, .slice bk 1 1]) (by simp [*, results, Tryz.results53, go_sem]) rfl ⟨_, _, _, _, rfl, (by repeat (first | exact Bel.refl _ | assumption | refine Bel.alloc ?_ _ | refine Bel.drew ?_ | refine Bel.set ?_ (by first | exact Nat.le_refl _ | (simp; done) | (simp; omega)) _))⟩

set_option maxRecDepth 100000 in
set_option maxHeartbeats 4000000 in
theorem cv_block (l : Int) (a : List Ast) (r : Int) (hha : ∀ z, z ∈ a → CvS z) (hla : a.length ≤ 400) : CvS (.block l a r) := by
  intro S v w ha hS hk h0
  have ha0 := ha
  obtain ⟨ad, rfl, had, va, c0, c1, aa, c2⟩ := At_block.1 ha
  have hlt := hS ad had
  have hne1 : ¬ ad = w.heap.size := by omega
  have hne2 : ¬ w.heap.size = ad := by omega
  have Hz := hide (block_any (l := l) (r := r) hha hla S _ w ha0 hS hk h0)
  have taEmptyStmt := ta_miss ptr_EmptyStmt 98 49 rfl
  have taExprStmt := ta_miss ptr_ExprStmt 98 49 rfl
  have taSendStmt := ta_miss ptr_SendStmt 98 49 rfl
  have taIncDecStmt := ta_miss ptr_IncDecStmt 98 49 rfl
  have taAssignStmt := ta_miss ptr_AssignStmt 98 49 rfl
  have taGoStmt := ta_miss ptr_GoStmt 98 49 rfl
  have taDeferStmt := ta_miss ptr_DeferStmt 98 49 rfl
  have taReturnStmt := ta_miss ptr_ReturnStmt 98 49 rfl
  have taBranchStmt := ta_miss ptr_BranchStmt 98 49 rfl
  have taLabeledStmt := ta_miss ptr_LabeledStmt 98 49 rfl
  have taH := ta_hit ptr_BlockStmt 49
  clear ha
  go_enter Tryz.func53, Tryz.ntmps53
  go_wp2_with fail
  with_reducible refine Calls.mono (Hz.out _ ?_) ?_
  · exact (by repeat (first | exact Bel.refl _ | assumption | refine Bel.alloc ?_ _ | refine Bel.drew ?_ | refine Bel.set ?_ (by first | exact Nat.le_refl _ | (simp; done) | (simp; omega)) _))
  rintro e w1 ⟨t1, b1, n1, m1, rfl, hT1⟩
  have hw1 : Bel w w1 := Bel.trans (by repeat (first | exact Bel.refl _ | assumption | refine Bel.alloc ?_ _ | refine Bel.drew ?_ | refine Bel.set ?_ (by first | exact Nat.le_refl _ | (simp; done) | (simp; omega)) _)) hT1
  have z1 := hT1.le
  try simp only [World.size_alloc, World.size_setCell, size_drewN, World.size_drew] at z1
  obtain ⟨c1_0, f1_0, l1_0, n1_0, m1_0⟩ := hT1.facts (b := w.heap.size) (by (first | omega | (simp only [World.size_alloc, World.size_setCell, size_drewN, World.size_drew] <;> omega)))
  obtain ⟨c1_1, f1_1, l1_1, n1_1, m1_1⟩ := hw1.facts (b := ad) (by (first | omega | (simp only [World.size_alloc, World.size_setCell, size_drewN, World.size_drew] <;> omega)))
  go_wp2_with fail
  refine bodyPost_ret (v := .agg #[.string ⟨#[98, 108, 111, 99, 107]⟩, .string t1, .slice b1 n1 m1]) (by simp [*, results, Tryz.results53, go_sem]) rfl ⟨_, _, _, _, rfl, (by repeat (first | exact Bel.refl _ | assumption | refine Bel.alloc ?_ _ | refine Bel.drew ?_ | refine Bel.set ?_ (by first | exact Nat.le_refl _ | (simp; done) | (simp; omega)) _))⟩

set_option maxRecDepth 100000 in
set_option maxHeartbeats 4000000 in
theorem cv_selectS (p : Int) (z : Ast) (hz : CvB z) : CvS (.selectS p z) := by
  intro S v w ha hS hk h0
  obtain ⟨ad, rfl, had, vz, c0, c1, az⟩ := At_selectS.1 ha
  have hlt := hS ad had
  have hne1 : ¬ ad = w.heap.size := by omega
  have hne2 : ¬ w.heap.size = ad := by omega
  have Hz := hide (hz S _ w az hS hk h0)
  have taEmptyStmt := ta_miss ptr_EmptyStmt 211 49 rfl
  have taExprStmt := ta_miss ptr_ExprStmt 211 49 rfl
  have taSendStmt := ta_miss ptr_SendStmt 211 49 rfl
  have taIncDecStmt := ta_miss ptr_IncDecStmt 211 49 rfl
  have taAssignStmt := ta_miss ptr_AssignStmt 211 49 rfl
  have taGoStmt := ta_miss ptr_GoStmt 211 49 rfl
  have taDeferStmt := ta_miss ptr_DeferStmt 211 49 rfl
  have taReturnStmt := ta_miss ptr_ReturnStmt 211 49 rfl
  have taBranchStmt := ta_miss ptr_BranchStmt 211 49 rfl
  have taLabeledStmt := ta_miss ptr_LabeledStmt 211 49 rfl
  have taBlockStmt := ta_miss ptr_BlockStmt 211 49 rfl
  have taIfStmt := ta_miss ptr_IfStmt 211 49 rfl
  have taForStmt := ta_miss ptr_ForStmt 211 49 rfl
  have taRangeStmt := ta_miss ptr_RangeStmt 211 49 rfl
  have taSwitchStmt := ta_miss ptr_SwitchStmt 211 49 rfl
  have taTypeSwitchStmt := ta_miss ptr_TypeSwitchStmt 211 49 rfl
  have taH := ta_hit ptr_SelectStmt 49
  clear ha
  go_enter Tryz.func53, Tryz.ntmps53
  go_wp2_with fail
  with_reducible refine Calls.mono (Hz.out _ ?_) ?_
  · exact (by repeat (first | exact Bel.refl _ | assumption | refine Bel.alloc ?_ _ | refine Bel.drew ?_ | refine Bel.set ?_ (by first | exact Nat.le_refl _ | (simp; done) | (simp; omega)) _))
  rintro e w1 ⟨t1, b1, n1, m1, rfl, hT1⟩
  have hw1 : Bel w w1 := Bel.trans (by repeat (first | exact Bel.refl _ | assumption | refine Bel.alloc ?_ _ | refine Bel.drew ?_ | refine Bel.set ?_ (by first | exact Nat.le_refl _ | (simp; done) | (simp; omega)) _)) hT1
  have z1 := hT1.le
  try simp only [World.size_alloc, World.size_setCell, size_drewN, World.size_drew] at z1
  obtain ⟨c1_0, f1_0, l1_0, n1_0, m1_0⟩ := hT1.facts (b := w.heap.size) (by (first | omega | (simp only [World.size_alloc, World.size_setCell, size_drewN, World.size_drew] <;> omega)))
  obtain ⟨c1_1, f1_1, l1_1, n1_1, m1_1⟩ := hw1.facts (b := ad) (by (first | omega | (simp only [World.size_alloc, World.size_setCell, size_drewN, World.size_drew] <;> omega)))
  go_wp2_with fail
  refine (kids_any _ _ _ _).mono ?_
  rintro e wz ⟨bk, rfl, rfl⟩
  go_wp2_with fail
  refine bodyPost_ret (v := .agg #[.string ⟨#[115, 101, 108, 101, 99, 116, 115]⟩, .string ⟨#[]⟩, .slice bk 1 1]) (by simp [*, results, Tryz.results53, go_sem]) rfl ⟨_, _, _, _, rfl, (by repeat (first | exact Bel.refl _ | assumption | refine Bel.alloc ?_ _ | refine Bel.drew ?_ | refine Bel.set ?_ (by first | exact Nat.le_refl _ | (simp; done) | (simp; omega)) _))⟩

end Go.Proofs.YtkkgfgllfbahlaaGreatFmt
