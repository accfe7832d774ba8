/- impl.stmt at a range (printed by gen_cv.py). -/
import Derived.Test.YtkkgfgllfbahlaaGreatFmtCvE
import Derived.Test.YtkkgfgllfbahlaaGreatFmtBU
import Derived.Deep.RegionHeld3
set_option linter.unusedVariables false
set_option linter.unusedSimpArgs false
namespace Go.Proofs.YtkkgfgllfbahlaaGreatFmt
open Go Go.RowKit
set_option linter.unusedSimpArgs false

theorem far2 {w : World} {ad : Nat} (h : ad < w.heap.size) (x y : Obj) (j : Nat) : ((w.alloc x).alloc y).cell? ⟨ad, j, none⟩ = w.cell? ⟨ad, j, none⟩ := by
  rw [World.cell?_alloc_past _ _ _ (by simp; omega), World.cell?_alloc_past _ _ _ h]
theorem ne_blk {q r : Nat} (h : ¬ q = r) (i j : Nat) : (⟨q, i, none⟩ : Addr) ≠ ⟨r, j, none⟩ := fun e => h (by injection e)
theorem ne_off {r i j : Nat} (h : i ≠ j) : (⟨r, i, none⟩ : Addr) ≠ ⟨r, j, none⟩ := fun e => h (by injection e)
theorem set3 (X : World) (r : Nat) (a b c : Value) (h : ∀ j, j < 3 → (X.cell? ⟨r, j, none⟩).isSome = true) :
    (((X.setCell ⟨r, 0, none⟩ a).setCell ⟨r, 1, none⟩ b).setCell ⟨r, 2, none⟩ c).cell? ⟨r, 0, none⟩ = some a ∧ (((X.setCell ⟨r, 0, none⟩ a).setCell ⟨r, 1, none⟩ b).setCell ⟨r, 2, none⟩ c).cell? ⟨r, 1, none⟩ = some b ∧ (((X.setCell ⟨r, 0, none⟩ a).setCell ⟨r, 1, none⟩ b).setCell ⟨r, 2, none⟩ c).cell? ⟨r, 2, none⟩ = some c := by
  refine ⟨?_, ?_, ?_⟩
  · rw [World.cell?_setCell_other (h := ne_off (by decide)), World.cell?_setCell_other (h := ne_off (by decide)), World.cell?_setCell_same' _ _ _ (h 0 (by decide))]
  · rw [World.cell?_setCell_other (h := ne_off (by decide)), World.cell?_setCell_same' _ _ _ (by rw [World.cell?_setCell_other (h := ne_off (by decide))]; exact h 1 (by decide))]
  · rw [World.cell?_setCell_same' _ _ _ (by rw [World.cell?_setCell_other (h := ne_off (by decide)), World.cell?_setCell_other (h := ne_off (by decide))]; exact h 2 (by decide))]
theorem far1 {w : World} {ad : Nat} (h : ad < w.heap.size) (x : Obj) (j : Nat) : (w.alloc x).cell? ⟨ad, j, none⟩ = w.cell? ⟨ad, j, none⟩ := World.cell?_alloc_past _ _ _ h
theorem set6 (X : World) (q r : Nat) (a b c a' b' c' : Value) (hq : ¬ q = r) (h : ∀ j, j < 3 → (X.cell? ⟨r, j, none⟩).isSome = true) :
    ((((((X.setCell ⟨q, 0, none⟩ a').setCell ⟨q, 1, none⟩ b').setCell ⟨q, 2, none⟩ c').setCell ⟨r, 0, none⟩ a).setCell ⟨r, 1, none⟩ b).setCell ⟨r, 2, none⟩ c).cell? ⟨r, 0, none⟩ = some a ∧ ((((((X.setCell ⟨q, 0, none⟩ a').setCell ⟨q, 1, none⟩ b').setCell ⟨q, 2, none⟩ c').setCell ⟨r, 0, none⟩ a).setCell ⟨r, 1, none⟩ b).setCell ⟨r, 2, none⟩ c).cell? ⟨r, 1, none⟩ = some b ∧ ((((((X.setCell ⟨q, 0, none⟩ a').setCell ⟨q, 1, none⟩ b').setCell ⟨q, 2, none⟩ c').setCell ⟨r, 0, none⟩ a).setCell ⟨r, 1, none⟩ b).setCell ⟨r, 2, none⟩ c).cell? ⟨r, 2, none⟩ = some c :=
  set3 _ r a b c fun j hj => by
    rw [World.cell?_setCell_other (h := ne_blk hq _ _), World.cell?_setCell_other (h := ne_blk hq _ _), World.cell?_setCell_other (h := ne_blk hq _ _)]
    exact h j hj
theorem res53 (T : Array Value) (W : World) (r : Nat) (k t : ByteArray) (b : Option Addr) (n c : Nat) (hT : T[2]?.getD undef = .pointer (some ⟨r, 0, none⟩)) (h0 : W.cell? ⟨r, 0, none⟩ = some (.string k)) (h1 : W.cell? ⟨r, 1, none⟩ = some (.string t)) (h2 : W.cell? ⟨r, 2, none⟩ = some (.slice b n c)) :
    (results Tryz.f53 T).run Tryz.prog W = .ok (.agg #[.string k, .string t, .slice b n c]) W := by
  simp [results, Tryz.results53, go_sem, hT, h0, h1, h2]

set_option maxRecDepth 100000 in
set_option maxHeartbeats 20000000 in
theorem cv_range0 (p : Int) (y : Option Ast) (q : Int) (t : Int) (r : Int) (z : Ast) (u : Ast) (hy : ∀ a, y = some a → CvE a) (hz : CvE z) (hu : CvB u) : CvS (.rangeS p none y q t r z u) := by
  intro S v w ha hS hk h0
  obtain ⟨ad, rfl, had, vx, vy, vz, vu, c0, c1, ax, c2, ay, c3, c4, c5, c6, az, c7, au⟩ := At_rangeS.1 ha
  have hlt := hS ad had
  have hne1 : ¬ ad = w.heap.size := by omega
  have hne2 : ¬ w.heap.size = ad := by omega
  have Hx := hide (cvEO (o := none) (fun a h => by simp at h) ax hS hk h0)
  rw [AtO_none] at ax
  subst ax
  have nn0 : ¬ ad = w.heap.size + 1 := by omega
  have nn00 : ¬ w.heap.size + 1 = ad := by omega
  have nn01 : ad < w.heap.size + 1 := by omega
  have Hy := hide (cvEO hy ay hS hk h0)
  have Hz := hide (hz.at az hS hk h0)
  have Hu := hide (hu S _ w au hS hk h0)
  have taEmptyStmt := ta_miss ptr_EmptyStmt 217 49 rfl
  have taExprStmt := ta_miss ptr_ExprStmt 217 49 rfl
  have taSendStmt := ta_miss ptr_SendStmt 217 49 rfl
  have taIncDecStmt := ta_miss ptr_IncDecStmt 217 49 rfl
  have taAssignStmt := ta_miss ptr_AssignStmt 217 49 rfl
  have taGoStmt := ta_miss ptr_GoStmt 217 49 rfl
  have taDeferStmt := ta_miss ptr_DeferStmt 217 49 rfl
  have taReturnStmt := ta_miss ptr_ReturnStmt 217 49 rfl
  have taBranchStmt := ta_miss ptr_BranchStmt 217 49 rfl
  have taLabeledStmt := ta_miss ptr_LabeledStmt 217 49 rfl
  have taBlockStmt := ta_miss ptr_BlockStmt 217 49 rfl
  have taIfStmt := ta_miss ptr_IfStmt 217 49 rfl
  have taForStmt := ta_miss ptr_ForStmt 217 49 rfl
  have taH := ta_hit ptr_RangeStmt 49
  clear ha
  go_enter Tryz.func53, Tryz.ntmps53
  go_wp2_with fail
  go_region_held3 (fun w' => w'.cell? ⟨ad, 1, none⟩ = some .nilIface ∧ w'.cell? ⟨ad, 2, none⟩ = some vy ∧ w'.cell? ⟨ad, 4, none⟩ = some (.int .i64 t) ∧ w'.cell? ⟨ad, 6, none⟩ = some vz ∧ w'.cell? ⟨ad, 7, none⟩ = some (.pointer (some ⟨vu, 0, none⟩))) (go_keep) (first
    | (go_at_call 54
       with_reducible refine Calls.mono (Hx.out _ ?_) ?_
       · exact (by repeat (first | exact Bel.refl _ | assumption | refine Bel.alloc ?_ _ | refine Bel.drew ?_ | refine Bel.set ?_ (by first | exact Nat.le_refl _ | (simp; done) | (simp; omega)) _))
       rintro e w1 ⟨t1, b1, n1, m1, rfl, hT1⟩
       have hw1 : Bel w w1 := Bel.trans (by repeat (first | exact Bel.refl _ | assumption | refine Bel.alloc ?_ _ | refine Bel.drew ?_ | refine Bel.set ?_ (by first | exact Nat.le_refl _ | (simp; done) | (simp; omega)) _)) hT1
       have z1 := hT1.le
       try simp only [World.size_alloc, World.size_setCell, size_drewN, World.size_drew] at z1
       have hB1 : Bel (w.alloc (.cells #[.string ⟨#[]⟩, .string ⟨#[]⟩, .slice none 0 0] 24)) w1 := Bel.trans (by repeat (first | exact Bel.refl _ | assumption | refine Bel.alloc ?_ _ | refine Bel.drew ?_ | refine Bel.set ?_ (by first | exact Nat.le_refl _ | (simp; done) | (simp; omega)) _)) hT1
       obtain ⟨c1_0, f1_0, l1_0, n1_0, m1_0⟩ := hB1.facts (b := w.heap.size) (by (first | omega | (simp only [World.size_alloc, World.size_setCell, size_drewN, World.size_drew] <;> omega)))
       obtain ⟨c1_1, f1_1, l1_1, n1_1, m1_1⟩ := hw1.facts (b := ad) (by (first | omega | (simp only [World.size_alloc, World.size_setCell, size_drewN, World.size_drew] <;> omega)))
       try (have x1_0 := hT1.at (b := (w.heap.size + 1)) ?_; rotate_left; (first | omega | (simp only [World.size_alloc, World.size_setCell, size_drewN, World.size_drew] <;> omega)))
       try (have y1_0 := hT1.atf (b := (w.heap.size + 1)) ?_; rotate_left; (first | omega | (simp only [World.size_alloc, World.size_setCell, size_drewN, World.size_drew] <;> omega)))
       try (have u1_0 : ¬ (w.heap.size + 1) = w1.heap.size := ?_; rotate_left; omega)
       try (have v1_0 : ¬ w1.heap.size = (w.heap.size + 1) := ?_; rotate_left; omega)
       try (have q1_0 : (w.heap.size + 1) < w1.heap.size := ?_; rotate_left; omega)
      )
    | (go_at_call 54
       with_reducible refine Calls.mono (Hy.out _ ?_) ?_
       · exact (by repeat (first | exact Bel.refl _ | assumption | refine Bel.alloc ?_ _ | refine Bel.drew ?_ | refine Bel.set ?_ (by first | exact Nat.le_refl _ | (simp; done) | (simp; omega)) _))
       rintro e w2 ⟨t2, b2, n2, m2, rfl, hT2⟩
       have hw2 : Bel w w2 := Bel.trans (by repeat (first | exact Bel.refl _ | assumption | refine Bel.alloc ?_ _ | refine Bel.drew ?_ | refine Bel.set ?_ (by first | exact Nat.le_refl _ | (simp; done) | (simp; omega)) _)) hT2
       have z2 := hT2.le
       try simp only [World.size_alloc, World.size_setCell, size_drewN, World.size_drew] at z2
       have hB2 : Bel (w.alloc (.cells #[.string ⟨#[]⟩, .string ⟨#[]⟩, .slice none 0 0] 24)) w2 := Bel.trans (by repeat (first | exact Bel.refl _ | assumption | refine Bel.alloc ?_ _ | refine Bel.drew ?_ | refine Bel.set ?_ (by first | exact Nat.le_refl _ | (simp; done) | (simp; omega)) _)) hT2
       obtain ⟨c2_0, f2_0, l2_0, n2_0, m2_0⟩ := hB2.facts (b := w.heap.size) (by (first | omega | (simp only [World.size_alloc, World.size_setCell, size_drewN, World.size_drew] <;> omega)))
       obtain ⟨c2_1, f2_1, l2_1, n2_1, m2_1⟩ := hw2.facts (b := ad) (by (first | omega | (simp only [World.size_alloc, World.size_setCell, size_drewN, World.size_drew] <;> omega)))
       try (have x2_0 := hT2.at (b := (w.heap.size + 1)) ?_; rotate_left; (first | omega | (simp only [World.size_alloc, World.size_setCell, size_drewN, World.size_drew] <;> omega)))
       try (have y2_0 := hT2.atf (b := (w.heap.size + 1)) ?_; rotate_left; (first | omega | (simp only [World.size_alloc, World.size_setCell, size_drewN, World.size_drew] <;> omega)))
       try (have u2_0 : ¬ (w.heap.size + 1) = w2.heap.size := ?_; rotate_left; omega)
       try (have v2_0 : ¬ w2.heap.size = (w.heap.size + 1) := ?_; rotate_left; omega)
       try (have q2_0 : (w.heap.size + 1) < w2.heap.size := ?_; rotate_left; omega)
       try (have x2_1 := hT2.at (b := w1.heap.size) ?_; rotate_left; (first | omega | (simp only [World.size_alloc, World.size_setCell, size_drewN, World.size_drew] <;> omega)))
       try (have y2_1 := hT2.atf (b := w1.heap.size) ?_; rotate_left; (first | omega | (simp only [World.size_alloc, World.size_setCell, size_drewN, World.size_drew] <;> omega)))
       try (have u2_1 : ¬ w1.heap.size = w2.heap.size := ?_; rotate_left; omega)
       try (have v2_1 : ¬ w2.heap.size = w1.heap.size := ?_; rotate_left; omega)
       try (have q2_1 : w1.heap.size < w2.heap.size := ?_; rotate_left; omega)
      )
    | (go_at_call 54
       with_reducible refine Calls.mono (Hz.out _ ?_) ?_
       · exact (by repeat (first | exact Bel.refl _ | assumption | refine Bel.alloc ?_ _ | refine Bel.drew ?_ | refine Bel.set ?_ (by first | exact Nat.le_refl _ | (simp; done) | (simp; omega)) _))
       rintro e w3 ⟨t3, b3, n3, m3, rfl, hT3⟩
       have hw3 : Bel w w3 := Bel.trans (by repeat (first | exact Bel.refl _ | assumption | refine Bel.alloc ?_ _ | refine Bel.drew ?_ | refine Bel.set ?_ (by first | exact Nat.le_refl _ | (simp; done) | (simp; omega)) _)) hT3
       have z3 := hT3.le
       try simp only [World.size_alloc, World.size_setCell, size_drewN, World.size_drew] at z3
       have hB3 : Bel (w.alloc (.cells #[.string ⟨#[]⟩, .string ⟨#[]⟩, .slice none 0 0] 24)) w3 := Bel.trans (by repeat (first | exact Bel.refl _ | assumption | refine Bel.alloc ?_ _ | refine Bel.drew ?_ | refine Bel.set ?_ (by first | exact Nat.le_refl _ | (simp; done) | (simp; omega)) _)) hT3
       obtain ⟨c3_0, f3_0, l3_0, n3_0, m3_0⟩ := hB3.facts (b := w.heap.size) (by (first | omega | (simp only [World.size_alloc, World.size_setCell, size_drewN, World.size_drew] <;> omega)))
       obtain ⟨c3_1, f3_1, l3_1, n3_1, m3_1⟩ := hw3.facts (b := ad) (by (first | omega | (simp only [World.size_alloc, World.size_setCell, size_drewN, World.size_drew] <;> omega)))
       try (have x3_0 := hT3.at (b := (w.heap.size + 1)) ?_; rotate_left; (first | omega | (simp only [World.size_alloc, World.size_setCell, size_drewN, World.size_drew] <;> omega)))
       try (have y3_0 := hT3.atf (b := (w.heap.size + 1)) ?_; rotate_left; (first | omega | (simp only [World.size_alloc, World.size_setCell, size_drewN, World.size_drew] <;> omega)))
       try (have u3_0 : ¬ (w.heap.size + 1) = w3.heap.size := ?_; rotate_left; omega)
       try (have v3_0 : ¬ w3.heap.size = (w.heap.size + 1) := ?_; rotate_left; omega)
       try (have q3_0 : (w.heap.size + 1) < w3.heap.size := ?_; rotate_left; omega)
       try (have x3_1 := hT3.at (b := w1.heap.size) ?_; rotate_left; (first | omega | (simp only [World.size_alloc, World.size_setCell, size_drewN, World.size_drew] <;> omega)))
       try (have y3_1 := hT3.atf (b := w1.heap.size) ?_; rotate_left; (first | omega | (simp only [World.size_alloc, World.size_setCell, size_drewN, World.size_drew] <;> omega)))
       try (have u3_1 : ¬ w1.heap.size = w3.heap.size := ?_; rotate_left; omega)
       try (have v3_1 : ¬ w3.heap.size = w1.heap.size := ?_; rotate_left; omega)
       try (have q3_1 : w1.heap.size < w3.heap.size := ?_; rotate_left; omega)
       try (have x3_2 := hT3.at (b := w2.heap.size) ?_; rotate_left; (first | omega | (simp only [World.size_alloc, World.size_setCell, size_drewN, World.size_drew] <;> omega)))
       try (have y3_2 := hT3.atf (b := w2.heap.size) ?_; rotate_left; (first | omega | (simp only [World.size_alloc, World.size_setCell, size_drewN, World.size_drew] <;> omega)))
       try (have u3_2 : ¬ w2.heap.size = w3.heap.size := ?_; rotate_left; omega)
       try (have v3_2 : ¬ w3.heap.size = w2.heap.size := ?_; rotate_left; omega)
       try (have q3_2 : w2.heap.size < w3.heap.size := ?_; rotate_left; omega)
      )
    | (go_at_call 82
       with_reducible refine Calls.mono (Hu.out _ ?_) ?_
       · exact (by repeat (first | exact Bel.refl _ | assumption | refine Bel.alloc ?_ _ | refine Bel.drew ?_ | refine Bel.set ?_ (by first | exact Nat.le_refl _ | (simp; done) | (simp; omega)) _))
       rintro e w4 ⟨t4, b4, n4, m4, rfl, hT4⟩
       have hw4 : Bel w w4 := Bel.trans (by repeat (first | exact Bel.refl _ | assumption | refine Bel.alloc ?_ _ | refine Bel.drew ?_ | refine Bel.set ?_ (by first | exact Nat.le_refl _ | (simp; done) | (simp; omega)) _)) hT4
       have z4 := hT4.le
       try simp only [World.size_alloc, World.size_setCell, size_drewN, World.size_drew] at z4
       have hB4 : Bel (w.alloc (.cells #[.string ⟨#[]⟩, .string ⟨#[]⟩, .slice none 0 0] 24)) w4 := Bel.trans (by repeat (first | exact Bel.refl _ | assumption | refine Bel.alloc ?_ _ | refine Bel.drew ?_ | refine Bel.set ?_ (by first | exact Nat.le_refl _ | (simp; done) | (simp; omega)) _)) hT4
       obtain ⟨c4_0, f4_0, l4_0, n4_0, m4_0⟩ := hB4.facts (b := w.heap.size) (by (first | omega | (simp only [World.size_alloc, World.size_setCell, size_drewN, World.size_drew] <;> omega)))
       obtain ⟨c4_1, f4_1, l4_1, n4_1, m4_1⟩ := hw4.facts (b := ad) (by (first | omega | (simp only [World.size_alloc, World.size_setCell, size_drewN, World.size_drew] <;> omega)))
       try (have x4_0 := hT4.at (b := (w.heap.size + 1)) ?_; rotate_left; (first | omega | (simp only [World.size_alloc, World.size_setCell, size_drewN, World.size_drew] <;> omega)))
       try (have y4_0 := hT4.atf (b := (w.heap.size + 1)) ?_; rotate_left; (first | omega | (simp only [World.size_alloc, World.size_setCell, size_drewN, World.size_drew] <;> omega)))
       try (have u4_0 : ¬ (w.heap.size + 1) = w4.heap.size := ?_; rotate_left; omega)
       try (have v4_0 : ¬ w4.heap.size = (w.heap.size + 1) := ?_; rotate_left; omega)
       try (have q4_0 : (w.heap.size + 1) < w4.heap.size := ?_; rotate_left; omega)
       try (have x4_1 := hT4.at (b := w1.heap.size) ?_; rotate_left; (first | omega | (simp only [World.size_alloc, World.size_setCell, size_drewN, World.size_drew] <;> omega)))
       try (have y4_1 := hT4.atf (b := w1.heap.size) ?_; rotate_left; (first | omega | (simp only [World.size_alloc, World.size_setCell, size_drewN, World.size_drew] <;> omega)))
       try (have u4_1 : ¬ w1.heap.size = w4.heap.size := ?_; rotate_left; omega)
       try (have v4_1 : ¬ w4.heap.size = w1.heap.size := ?_; rotate_left; omega)
       try (have q4_1 : w1.heap.size < w4.heap.size := ?_; rotate_left; omega)
       try (have x4_2 := hT4.at (b := w2.heap.size) ?_; rotate_left; (first | omega | (simp only [World.size_alloc, World.size_setCell, size_drewN, World.size_drew] <;> omega)))
       try (have y4_2 := hT4.atf (b := w2.heap.size) ?_; rotate_left; (first | omega | (simp only [World.size_alloc, World.size_setCell, size_drewN, World.size_drew] <;> omega)))
       try (have u4_2 : ¬ w2.heap.size = w4.heap.size := ?_; rotate_left; omega)
       try (have v4_2 : ¬ w4.heap.size = w2.heap.size := ?_; rotate_left; omega)
       try (have q4_2 : w2.heap.size < w4.heap.size := ?_; rotate_left; omega)
       try (have x4_3 := hT4.at (b := w3.heap.size) ?_; rotate_left; (first | omega | (simp only [World.size_alloc, World.size_setCell, size_drewN, World.size_drew] <;> omega)))
       try (have y4_3 := hT4.atf (b := w3.heap.size) ?_; rotate_left; (first | omega | (simp only [World.size_alloc, World.size_setCell, size_drewN, World.size_drew] <;> omega)))
       try (have u4_3 : ¬ w3.heap.size = w4.heap.size := ?_; rotate_left; omega)
       try (have v4_3 : ¬ w4.heap.size = w3.heap.size := ?_; rotate_left; omega)
       try (have q4_3 : w3.heap.size < w4.heap.size := ?_; rotate_left; omega)
       have nn5 : ad < w4.heap.size + 1 := by omega
       have nn6 : w.heap.size < w4.heap.size + 1 := by omega
       have nn1 : ¬ ad = w4.heap.size + 1 := by omega
       have nn2 : ¬ w4.heap.size + 1 = ad := by omega
       have nn3 : ¬ w.heap.size = w4.heap.size + 1 := by omega
       have nn4 : ¬ w4.heap.size + 1 = w.heap.size := by omega
      )
    | (go_at_call 78
       refine (kids_any _ _ _ _).mono ?_
       rintro e wz ⟨bk, rfl, rfl⟩
      )
)
  · go_wp2_with fail
    have hX : ∀ j, j < 3 → (w4.cell? ⟨w.heap.size, j, none⟩).isSome = true := by
      intro j hj
      rw [c4_0, World.cell?_alloc_at _ _ _ _ rfl]
      match j, hj with
      | 0, _ => rfl
      | 1, _ => rfl
      | 2, _ => rfl
    refine bodyPost_ret (res53 _ _ w.heap.size ⟨#[114, 97, 110, 103, 101]⟩ ⟨#[]⟩ bk 4 4 rfl ?_ ?_ ?_) rfl ⟨_, _, _, _, rfl, ((((Bel.set hw4 (Nat.le_refl _) _).set (Nat.le_refl _) _).set (Nat.le_refl _) _).alloc _).alloc _⟩
    · with_reducible exact (far2 (by simp only [World.size_setCell]; exact l4_0) _ _ _).trans (set3 w4 w.heap.size _ _ _ hX).1
    · with_reducible exact (far2 (by simp only [World.size_setCell]; exact l4_0) _ _ _).trans (set3 w4 w.heap.size _ _ _ hX).2.1
    · with_reducible exact (far2 (by simp only [World.size_setCell]; exact l4_0) _ _ _).trans (set3 w4 w.heap.size _ _ _ hX).2.2
  · go_wp2_with fail
    have hX : ∀ j, j < 3 → (w4.cell? ⟨w.heap.size, j, none⟩).isSome = true := by
      intro j hj
      rw [c4_0, World.cell?_alloc_at _ _ _ _ rfl]
      match j, hj with
      | 0, _ => rfl
      | 1, _ => rfl
      | 2, _ => rfl
    refine bodyPost_ret (res53 _ _ w.heap.size ⟨#[114, 97, 110, 103, 101]⟩ ⟨#[]⟩ bk 4 4 rfl ?_ ?_ ?_) rfl ⟨_, _, _, _, rfl, ((((Bel.set hw4 (Nat.le_refl _) _).set (Nat.le_refl _) _).set (Nat.le_refl _) _).alloc _).alloc _⟩
    · with_reducible exact (far2 (by simp only [World.size_setCell]; exact l4_0) _ _ _).trans (set3 w4 w.heap.size _ _ _ hX).1
    · with_reducible exact (far2 (by simp only [World.size_setCell]; exact l4_0) _ _ _).trans (set3 w4 w.heap.size _ _ _ hX).2.1
    · with_reducible exact (far2 (by simp only [World.size_setCell]; exact l4_0) _ _ _).trans (set3 w4 w.heap.size _ _ _ hX).2.2
  · go_wp2_with fail
    have hX : ∀ j, j < 3 → (w4.cell? ⟨w.heap.size, j, none⟩).isSome = true := by
      intro j hj
      rw [c4_0, World.cell?_alloc_at _ _ _ _ rfl]
      match j, hj with
      | 0, _ => rfl
      | 1, _ => rfl
      | 2, _ => rfl
    refine bodyPost_ret (res53 _ _ w.heap.size ⟨#[114, 97, 110, 103, 101]⟩ ⟨#[]⟩ bk 4 4 rfl ?_ ?_ ?_) rfl ⟨_, _, _, _, rfl, ((((Bel.set hw4 (Nat.le_refl _) _).set (Nat.le_refl _) _).set (Nat.le_refl _) _).alloc _).alloc _⟩
    · with_reducible exact (far2 (by simp only [World.size_setCell]; exact l4_0) _ _ _).trans (set3 w4 w.heap.size _ _ _ hX).1
    · with_reducible exact (far2 (by simp only [World.size_setCell]; exact l4_0) _ _ _).trans (set3 w4 w.heap.size _ _ _ hX).2.1
    · with_reducible exact (far2 (by simp only [World.size_setCell]; exact l4_0) _ _ _).trans (set3 w4 w.heap.size _ _ _ hX).2.2
  · go_wp2_with fail
    have hX : ∀ j, j < 3 → (w4.cell? ⟨w.heap.size, j, none⟩).isSome = true := by
      intro j hj
      rw [c4_0, World.cell?_alloc_at _ _ _ _ rfl]
      match j, hj with
      | 0, _ => rfl
      | 1, _ => rfl
      | 2, _ => rfl
    have hR : ¬ w3.heap.size = w.heap.size := by omega
    have hR0 : w.heap.size ≤ w3.heap.size := by omega
    refine bodyPost_ret (res53 _ _ w.heap.size ⟨#[114, 97, 110, 103, 101]⟩ ⟨#[]⟩ bk 4 4 rfl ?_ ?_ ?_) rfl ⟨_, _, _, _, rfl, ((((((Bel.set hw4 hR0 _).set hR0 _).set hR0 _).set (Nat.le_refl _) _).set (Nat.le_refl _) _).set (Nat.le_refl _) _).alloc _⟩
    · with_reducible exact (far1 (by simp only [World.size_setCell]; exact l4_0) _ _).trans (set6 w4 (w3.heap.size) w.heap.size _ _ _ _ _ _ hR hX).1
    · with_reducible exact (far1 (by simp only [World.size_setCell]; exact l4_0) _ _).trans (set6 w4 (w3.heap.size) w.heap.size _ _ _ _ _ _ hR hX).2.1
    · with_reducible exact (far1 (by simp only [World.size_setCell]; exact l4_0) _ _).trans (set6 w4 (w3.heap.size) w.heap.size _ _ _ _ _ _ hR hX).2.2
  · go_wp2_with fail
    have hX : ∀ j, j < 3 → (w4.cell? ⟨w.heap.size, j, none⟩).isSome = true := by
      intro j hj
      rw [c4_0, World.cell?_alloc_at _ _ _ _ rfl]
      match j, hj with
      | 0, _ => rfl
      | 1, _ => rfl
      | 2, _ => rfl
    have hR : ¬ w2.heap.size = w.heap.size := by omega
    have hR0 : w.heap.size ≤ w2.heap.size := by omega
    refine bodyPost_ret (res53 _ _ w.heap.size ⟨#[114, 97, 110, 103, 101]⟩ ⟨#[]⟩ bk 4 4 rfl ?_ ?_ ?_) rfl ⟨_, _, _, _, rfl, ((((((Bel.set hw4 hR0 _).set hR0 _).set hR0 _).set (Nat.le_refl _) _).set (Nat.le_refl _) _).set (Nat.le_refl _) _).alloc _⟩
    · with_reducible exact (far1 (by simp only [World.size_setCell]; exact l4_0) _ _).trans (set6 w4 (w2.heap.size) w.heap.size _ _ _ _ _ _ hR hX).1
    · with_reducible exact (far1 (by simp only [World.size_setCell]; exact l4_0) _ _).trans (set6 w4 (w2.heap.size) w.heap.size _ _ _ _ _ _ hR hX).2.1
    · with_reducible exact (far1 (by simp only [World.size_setCell]; exact l4_0) _ _).trans (set6 w4 (w2.heap.size) w.heap.size _ _ _ _ _ _ hR hX).2.2
  · go_wp2_with fail
    have hX : ∀ j, j < 3 → (w4.cell? ⟨w.heap.size, j, none⟩).isSome = true := by
      intro j hj
      rw [c4_0, World.cell?_alloc_at _ _ _ _ rfl]
      match j, hj with
      | 0, _ => rfl
      | 1, _ => rfl
      | 2, _ => rfl
    have hR : ¬ w1.heap.size = w.heap.size := by omega
    have hR0 : w.heap.size ≤ w1.heap.size := by omega
    refine bodyPost_ret (res53 _ _ w.heap.size ⟨#[114, 97, 110, 103, 101]⟩ ⟨#[]⟩ bk 4 4 rfl ?_ ?_ ?_) rfl ⟨_, _, _, _, rfl, ((((((Bel.set hw4 hR0 _).set hR0 _).set hR0 _).set (Nat.le_refl _) _).set (Nat.le_refl _) _).set (Nat.le_refl _) _).alloc _⟩
    · with_reducible exact (far1 (by simp only [World.size_setCell]; exact l4_0) _ _).trans (set6 w4 (w1.heap.size) w.heap.size _ _ _ _ _ _ hR hX).1
    · with_reducible exact (far1 (by simp only [World.size_setCell]; exact l4_0) _ _).trans (set6 w4 (w1.heap.size) w.heap.size _ _ _ _ _ _ hR hX).2.1
    · with_reducible exact (far1 (by simp only [World.size_setCell]; exact l4_0) _ _).trans (set6 w4 (w1.heap.size) w.heap.size _ _ _ _ _ _ hR hX).2.2
  · go_wp2_with fail
    have hX : ∀ j, j < 3 → (w4.cell? ⟨w.heap.size, j, none⟩).isSome = true := by
      intro j hj
      rw [c4_0, World.cell?_alloc_at _ _ _ _ rfl]
      match j, hj with
      | 0, _ => rfl
      | 1, _ => rfl
      | 2, _ => rfl
    have hR : ¬ w.heap.size + 1 = w.heap.size := by omega
    have hR0 : w.heap.size ≤ w.heap.size + 1 := by omega
    refine bodyPost_ret (res53 _ _ w.heap.size ⟨#[114, 97, 110, 103, 101]⟩ ⟨#[]⟩ bk 4 4 rfl ?_ ?_ ?_) rfl ⟨_, _, _, _, rfl, ((((((Bel.set hw4 hR0 _).set hR0 _).set hR0 _).set (Nat.le_refl _) _).set (Nat.le_refl _) _).set (Nat.le_refl _) _).alloc _⟩
    · with_reducible exact (far1 (by simp only [World.size_setCell]; exact l4_0) _ _).trans (set6 w4 (w.heap.size + 1) w.heap.size _ _ _ _ _ _ hR hX).1
    · with_reducible exact (far1 (by simp only [World.size_setCell]; exact l4_0) _ _).trans (set6 w4 (w.heap.size + 1) w.heap.size _ _ _ _ _ _ hR hX).2.1
    · with_reducible exact (far1 (by simp only [World.size_setCell]; exact l4_0) _ _).trans (set6 w4 (w.heap.size + 1) w.heap.size _ _ _ _ _ _ hR hX).2.2

set_option maxRecDepth 100000 in
set_option maxHeartbeats 20000000 in
theorem cv_range1 (p : Int) (x : Ast) (y : Option Ast) (q : Int) (t : Int) (r : Int) (z : Ast) (u : Ast) (ht : tokR t) (hx : CvE x) (hy : ∀ a, y = some a → CvE a) (hz : CvE z) (hu : CvB u) : CvS (.rangeS p (some x) y q t r z u) := by
  intro S v w ha hS hk h0
  obtain ⟨ad, rfl, had, vx, vy, vz, vu, c0, c1, ax, c2, ay, c3, c4, c5, c6, az, c7, au⟩ := At_rangeS.1 ha
  have hlt := hS ad had
  have hne1 : ¬ ad = w.heap.size := by omega
  have hne2 : ¬ w.heap.size = ad := by omega
  have Hx := hide (hx.at (AtO_some.1 ax) hS hk h0)
  obtain ⟨px, hpx, -⟩ := (AtO_some.1 ax).ptr
  subst hpx
  have nn0 : ¬ ad = w.heap.size + 1 := by omega
  have nn00 : ¬ w.heap.size + 1 = ad := by omega
  have nn01 : ad < w.heap.size + 1 := by omega
  have Hy := hide (cvEO hy ay hS hk h0)
  have Hz := hide (hz.at az hS hk h0)
  have Hu := hide (hu S _ w au hS hk h0)
  have Ht := hide (tok_at ht hk h0)
  have taEmptyStmt := ta_miss ptr_EmptyStmt 217 49 rfl
  have taExprStmt := ta_miss ptr_ExprStmt 217 49 rfl
  have taSendStmt := ta_miss ptr_SendStmt 217 49 rfl
  have taIncDecStmt := ta_miss ptr_IncDecStmt 217 49 rfl
  have taAssignStmt := ta_miss ptr_AssignStmt 217 49 rfl
  have taGoStmt := ta_miss ptr_GoStmt 217 49 rfl
  have taDeferStmt := ta_miss ptr_DeferStmt 217 49 rfl
  have taReturnStmt := ta_miss ptr_ReturnStmt 217 49 rfl
  have taBranchStmt := ta_miss ptr_BranchStmt 217 49 rfl
  have taLabeledStmt := ta_miss ptr_LabeledStmt 217 49 rfl
  have taBlockStmt := ta_miss ptr_BlockStmt 217 49 rfl
  have taIfStmt := ta_miss ptr_IfStmt 217 49 rfl
  have taForStmt := ta_miss ptr_ForStmt 217 49 rfl
  have taH := ta_hit ptr_RangeStmt 49
  clear ha
  go_enter Tryz.func53, Tryz.ntmps53
  go_wp2_with fail
  go_region_held3 (fun w' => w'.cell? ⟨ad, 1, none⟩ = some (.iface x.ptype (.pointer (some ⟨px, 0, none⟩))) ∧ w'.cell? ⟨ad, 2, none⟩ = some vy ∧ w'.cell? ⟨ad, 4, none⟩ = some (.int .i64 t) ∧ w'.cell? ⟨ad, 6, none⟩ = some vz ∧ w'.cell? ⟨ad, 7, none⟩ = some (.pointer (some ⟨vu, 0, none⟩))) (go_keep) (first
    | (go_at_call 54
       with_reducible refine Calls.mono (Hx.out _ ?_) ?_
       · exact (by repeat (first | exact Bel.refl _ | assumption | refine Bel.alloc ?_ _ | refine Bel.drew ?_ | refine Bel.set ?_ (by first | exact Nat.le_refl _ | (simp; done) | (simp; omega)) _))
       rintro e w1 ⟨t1, b1, n1, m1, rfl, hT1⟩
       have hw1 : Bel w w1 := Bel.trans (by repeat (first | exact Bel.refl _ | assumption | refine Bel.alloc ?_ _ | refine Bel.drew ?_ | refine Bel.set ?_ (by first | exact Nat.le_refl _ | (simp; done) | (simp; omega)) _)) hT1
       have z1 := hT1.le
       try simp only [World.size_alloc, World.size_setCell, size_drewN, World.size_drew] at z1
       have hB1 : Bel (w.alloc (.cells #[.string ⟨#[]⟩, .string ⟨#[]⟩, .slice none 0 0] 24)) w1 := Bel.trans (by repeat (first | exact Bel.refl _ | assumption | refine Bel.alloc ?_ _ | refine Bel.drew ?_ | refine Bel.set ?_ (by first | exact Nat.le_refl _ | (simp; done) | (simp; omega)) _)) hT1
       obtain ⟨c1_0, f1_0, l1_0, n1_0, m1_0⟩ := hB1.facts (b := w.heap.size) (by (first | omega | (simp only [World.size_alloc, World.size_setCell, size_drewN, World.size_drew] <;> omega)))
       obtain ⟨c1_1, f1_1, l1_1, n1_1, m1_1⟩ := hw1.facts (b := ad) (by (first | omega | (simp only [World.size_alloc, World.size_setCell, size_drewN, World.size_drew] <;> omega)))
       try (have x1_0 := hT1.at (b := (w.heap.size + 1)) ?_; rotate_left; (first | omega | (simp only [World.size_alloc, World.size_setCell, size_drewN, World.size_drew] <;> omega)))
       try (have y1_0 := hT1.atf (b := (w.heap.size + 1)) ?_; rotate_left; (first | omega | (simp only [World.size_alloc, World.size_setCell, size_drewN, World.size_drew] <;> omega)))
       try (have u1_0 : ¬ (w.heap.size + 1) = w1.heap.size := ?_; rotate_left; omega)
       try (have v1_0 : ¬ w1.heap.size = (w.heap.size + 1) := ?_; rotate_left; omega)
       try (have q1_0 : (w.heap.size + 1) < w1.heap.size := ?_; rotate_left; omega)
      )
    | (go_at_call 54
       with_reducible refine Calls.mono (Hy.out _ ?_) ?_
       · exact (by repeat (first | exact Bel.refl _ | assumption | refine Bel.alloc ?_ _ | refine Bel.drew ?_ | refine Bel.set ?_ (by first | exact Nat.le_refl _ | (simp; done) | (simp; omega)) _))
       rintro e w2 ⟨t2, b2, n2, m2, rfl, hT2⟩
       have hw2 : Bel w w2 := Bel.trans (by repeat (first | exact Bel.refl _ | assumption | refine Bel.alloc ?_ _ | refine Bel.drew ?_ | refine Bel.set ?_ (by first | exact Nat.le_refl _ | (simp; done) | (simp; omega)) _)) hT2
       have z2 := hT2.le
       try simp only [World.size_alloc, World.size_setCell, size_drewN, World.size_drew] at z2
       have hB2 : Bel (w.alloc (.cells #[.string ⟨#[]⟩, .string ⟨#[]⟩, .slice none 0 0] 24)) w2 := Bel.trans (by repeat (first | exact Bel.refl _ | assumption | refine Bel.alloc ?_ _ | refine Bel.drew ?_ | refine Bel.set ?_ (by first | exact Nat.le_refl _ | (simp; done) | (simp; omega)) _)) hT2
       obtain ⟨c2_0, f2_0, l2_0, n2_0, m2_0⟩ := hB2.facts (b := w.heap.size) (by (first | omega | (simp only [World.size_alloc, World.size_setCell, size_drewN, World.size_drew] <;> omega)))
       obtain ⟨c2_1, f2_1, l2_1, n2_1, m2_1⟩ := hw2.facts (b := ad) (by (first | omega | (simp only [World.size_alloc, World.size_setCell, size_drewN, World.size_drew] <;> omega)))
       try (have x2_0 := hT2.at (b := (w.heap.size + 1)) ?_; rotate_left; (first | omega | (simp only [World.size_alloc, World.size_setCell, size_drewN, World.size_drew] <;> omega)))
       try (have y2_0 := hT2.atf (b := (w.heap.size + 1)) ?_; rotate_left; (first | omega | (simp only [World.size_alloc, World.size_setCell, size_drewN, World.size_drew] <;> omega)))
       try (have u2_0 : ¬ (w.heap.size + 1) = w2.heap.size := ?_; rotate_left; omega)
       try (have v2_0 : ¬ w2.heap.size = (w.heap.size + 1) := ?_; rotate_left; omega)
       try (have q2_0 : (w.heap.size + 1) < w2.heap.size := ?_; rotate_left; omega)
       try (have x2_1 := hT2.at (b := w1.heap.size) ?_; rotate_left; (first | omega | (simp only [World.size_alloc, World.size_setCell, size_drewN, World.size_drew] <;> omega)))
       try (have y2_1 := hT2.atf (b := w1.heap.size) ?_; rotate_left; (first | omega | (simp only [World.size_alloc, World.size_setCell, size_drewN, World.size_drew] <;> omega)))
       try (have u2_1 : ¬ w1.heap.size = w2.heap.size := ?_; rotate_left; omega)
       try (have v2_1 : ¬ w2.heap.size = w1.heap.size := ?_; rotate_left; omega)
       try (have q2_1 : w1.heap.size < w2.heap.size := ?_; rotate_left; omega)
      )
    | (go_at_call 54
       with_reducible refine Calls.mono (Hz.out _ ?_) ?_
       · exact (by repeat (first | exact Bel.refl _ | assumption | refine Bel.alloc ?_ _ | refine Bel.drew ?_ | refine Bel.set ?_ (by first | exact Nat.le_refl _ | (simp; done) | (simp; omega)) _))
       rintro e w3 ⟨t3, b3, n3, m3, rfl, hT3⟩
       have hw3 : Bel w w3 := Bel.trans (by repeat (first | exact Bel.refl _ | assumption | refine Bel.alloc ?_ _ | refine Bel.drew ?_ | refine Bel.set ?_ (by first | exact Nat.le_refl _ | (simp; done) | (simp; omega)) _)) hT3
       have z3 := hT3.le
       try simp only [World.size_alloc, World.size_setCell, size_drewN, World.size_drew] at z3
       have hB3 : Bel (w.alloc (.cells #[.string ⟨#[]⟩, .string ⟨#[]⟩, .slice none 0 0] 24)) w3 := Bel.trans (by repeat (first | exact Bel.refl _ | assumption | refine Bel.alloc ?_ _ | refine Bel.drew ?_ | refine Bel.set ?_ (by first | exact Nat.le_refl _ | (simp; done) | (simp; omega)) _)) hT3
       obtain ⟨c3_0, f3_0, l3_0, n3_0, m3_0⟩ := hB3.facts (b := w.heap.size) (by (first | omega | (simp only [World.size_alloc, World.size_setCell, size_drewN, World.size_drew] <;> omega)))
       obtain ⟨c3_1, f3_1, l3_1, n3_1, m3_1⟩ := hw3.facts (b := ad) (by (first | omega | (simp only [World.size_alloc, World.size_setCell, size_drewN, World.size_drew] <;> omega)))
       try (have x3_0 := hT3.at (b := (w.heap.size + 1)) ?_; rotate_left; (first | omega | (simp only [World.size_alloc, World.size_setCell, size_drewN, World.size_drew] <;> omega)))
       try (have y3_0 := hT3.atf (b := (w.heap.size + 1)) ?_; rotate_left; (first | omega | (simp only [World.size_alloc, World.size_setCell, size_drewN, World.size_drew] <;> omega)))
       try (have u3_0 : ¬ (w.heap.size + 1) = w3.heap.size := ?_; rotate_left; omega)
       try (have v3_0 : ¬ w3.heap.size = (w.heap.size + 1) := ?_; rotate_left; omega)
       try (have q3_0 : (w.heap.size + 1) < w3.heap.size := ?_; rotate_left; omega)
       try (have x3_1 := hT3.at (b := w1.heap.size) ?_; rotate_left; (first | omega | (simp only [World.size_alloc, World.size_setCell, size_drewN, World.size_drew] <;> omega)))
       try (have y3_1 := hT3.atf (b := w1.heap.size) ?_; rotate_left; (first | omega | (simp only [World.size_alloc, World.size_setCell, size_drewN, World.size_drew] <;> omega)))
       try (have u3_1 : ¬ w1.heap.size = w3.heap.size := ?_; rotate_left; omega)
       try (have v3_1 : ¬ w3.heap.size = w1.heap.size := ?_; rotate_left; omega)
       try (have q3_1 : w1.heap.size < w3.heap.size := ?_; rotate_left; omega)
       try (have x3_2 := hT3.at (b := w2.heap.size) ?_; rotate_left; (first | omega | (simp only [World.size_alloc, World.size_setCell, size_drewN, World.size_drew] <;> omega)))
       try (have y3_2 := hT3.atf (b := w2.heap.size) ?_; rotate_left; (first | omega | (simp only [World.size_alloc, World.size_setCell, size_drewN, World.size_drew] <;> omega)))
       try (have u3_2 : ¬ w2.heap.size = w3.heap.size := ?_; rotate_left; omega)
       try (have v3_2 : ¬ w3.heap.size = w2.heap.size := ?_; rotate_left; omega)
       try (have q3_2 : w2.heap.size < w3.heap.size := ?_; rotate_left; omega)
      )
    | (go_at_call 82
       with_reducible refine Calls.mono (Hu.out _ ?_) ?_
       · exact (by repeat (first | exact Bel.refl _ | assumption | refine Bel.alloc ?_ _ | refine Bel.drew ?_ | refine Bel.set ?_ (by first | exact Nat.le_refl _ | (simp; done) | (simp; omega)) _))
       rintro e w4 ⟨t4, b4, n4, m4, rfl, hT4⟩
       have hw4 : Bel w w4 := Bel.trans (by repeat (first | exact Bel.refl _ | assumption | refine Bel.alloc ?_ _ | refine Bel.drew ?_ | refine Bel.set ?_ (by first | exact Nat.le_refl _ | (simp; done) | (simp; omega)) _)) hT4
       have z4 := hT4.le
       try simp only [World.size_alloc, World.size_setCell, size_drewN, World.size_drew] at z4
       have hB4 : Bel (w.alloc (.cells #[.string ⟨#[]⟩, .string ⟨#[]⟩, .slice none 0 0] 24)) w4 := Bel.trans (by repeat (first | exact Bel.refl _ | assumption | refine Bel.alloc ?_ _ | refine Bel.drew ?_ | refine Bel.set ?_ (by first | exact Nat.le_refl _ | (simp; done) | (simp; omega)) _)) hT4
       obtain ⟨c4_0, f4_0, l4_0, n4_0, m4_0⟩ := hB4.facts (b := w.heap.size) (by (first | omega | (simp only [World.size_alloc, World.size_setCell, size_drewN, World.size_drew] <;> omega)))
       obtain ⟨c4_1, f4_1, l4_1, n4_1, m4_1⟩ := hw4.facts (b := ad) (by (first | omega | (simp only [World.size_alloc, World.size_setCell, size_drewN, World.size_drew] <;> omega)))
       try (have x4_0 := hT4.at (b := (w.heap.size + 1)) ?_; rotate_left; (first | omega | (simp only [World.size_alloc, World.size_setCell, size_drewN, World.size_drew] <;> omega)))
       try (have y4_0 := hT4.atf (b := (w.heap.size + 1)) ?_; rotate_left; (first | omega | (simp only [World.size_alloc, World.size_setCell, size_drewN, World.size_drew] <;> omega)))
       try (have u4_0 : ¬ (w.heap.size + 1) = w4.heap.size := ?_; rotate_left; omega)
       try (have v4_0 : ¬ w4.heap.size = (w.heap.size + 1) := ?_; rotate_left; omega)
       try (have q4_0 : (w.heap.size + 1) < w4.heap.size := ?_; rotate_left; omega)
       try (have x4_1 := hT4.at (b := w1.heap.size) ?_; rotate_left; (first | omega | (simp only [World.size_alloc, World.size_setCell, size_drewN, World.size_drew] <;> omega)))
       try (have y4_1 := hT4.atf (b := w1.heap.size) ?_; rotate_left; (first | omega | (simp only [World.size_alloc, World.size_setCell, size_drewN, World.size_drew] <;> omega)))
       try (have u4_1 : ¬ w1.heap.size = w4.heap.size := ?_; rotate_left; omega)
       try (have v4_1 : ¬ w4.heap.size = w1.heap.size := ?_; rotate_left; omega)
       try (have q4_1 : w1.heap.size < w4.heap.size := ?_; rotate_left; omega)
       try (have x4_2 := hT4.at (b := w2.heap.size) ?_; rotate_left; (first | omega | (simp only [World.size_alloc, World.size_setCell, size_drewN, World.size_drew] <;> omega)))
       try (have y4_2 := hT4.atf (b := w2.heap.size) ?_; rotate_left; (first | omega | (simp only [World.size_alloc, World.size_setCell, size_drewN, World.size_drew] <;> omega)))
       try (have u4_2 : ¬ w2.heap.size = w4.heap.size := ?_; rotate_left; omega)
       try (have v4_2 : ¬ w4.heap.size = w2.heap.size := ?_; rotate_left; omega)
       try (have q4_2 : w2.heap.size < w4.heap.size := ?_; rotate_left; omega)
       try (have x4_3 := hT4.at (b := w3.heap.size) ?_; rotate_left; (first | omega | (simp only [World.size_alloc, World.size_setCell, size_drewN, World.size_drew] <;> omega)))
       try (have y4_3 := hT4.atf (b := w3.heap.size) ?_; rotate_left; (first | omega | (simp only [World.size_alloc, World.size_setCell, size_drewN, World.size_drew] <;> omega)))
       try (have u4_3 : ¬ w3.heap.size = w4.heap.size := ?_; rotate_left; omega)
       try (have v4_3 : ¬ w4.heap.size = w3.heap.size := ?_; rotate_left; omega)
       try (have q4_3 : w3.heap.size < w4.heap.size := ?_; rotate_left; omega)
       have nn5 : ad < w4.heap.size + 1 := by omega
       have nn6 : w.heap.size < w4.heap.size + 1 := by omega
       have nn1 : ¬ ad = w4.heap.size + 1 := by omega
       have nn2 : ¬ w4.heap.size + 1 = ad := by omega
       have nn3 : ¬ w.heap.size = w4.heap.size + 1 := by omega
       have nn4 : ¬ w4.heap.size + 1 = w.heap.size := by omega
      )
    | (go_at_call 78
       refine (kids_any _ _ _ _).mono ?_
       rintro e wz ⟨bk, rfl, rfl⟩
      )
)
  · go_wp2_with fail
    with_reducible refine Calls.mono (Ht.out _ ?_) ?_
    · exact (by repeat (first | exact Bel.refl _ | assumption | refine Bel.alloc ?_ _ | refine Bel.drew ?_ | refine Bel.set ?_ (by first | exact Nat.le_refl _ | (simp; done) | (simp; omega)) _))
    rintro e wz ⟨ts, rfl, hW⟩
    have zr : w.heap.size ≤ w4.heap.size + 1 := by omega
    have nr : ¬ w4.heap.size + 1 = w.heap.size := by omega
    have nr2 : ¬ w.heap.size = w4.heap.size + 1 := by omega
    have g0 : wz.cell? ⟨w4.heap.size + 1, 0, none⟩ = some (.string ⟨#[114, 97, 110, 103, 101]⟩) := by rw [← hW]; clear hW; go_simp
    have g1 : wz.cell? ⟨w4.heap.size + 1, 1, none⟩ = some (.string ⟨#[]⟩) := by rw [← hW]; clear hW; go_simp
    have g2 : wz.cell? ⟨w4.heap.size + 1, 2, none⟩ = some (.slice bk 4 4) := by rw [← hW]; clear hW; go_simp
    have o0 : wz.cell? ⟨w.heap.size, 0, none⟩ = some (.string ⟨#[]⟩) := by rw [← hW]; clear hW; go_simp
    have o1 : wz.cell? ⟨w.heap.size, 1, none⟩ = some (.string ⟨#[]⟩) := by rw [← hW]; clear hW; go_simp
    have o2 : wz.cell? ⟨w.heap.size, 2, none⟩ = some (.slice none 0 0) := by rw [← hW]; clear hW; go_simp
    have p0 : wz.frozen? ⟨w4.heap.size + 1, 0, none⟩ = false := by rw [← hW]; clear hW; go_simp
    have p1 : wz.frozen? ⟨w4.heap.size + 1, 1, none⟩ = false := by rw [← hW]; clear hW; go_simp
    have p2 : wz.frozen? ⟨w4.heap.size + 1, 2, none⟩ = false := by rw [← hW]; clear hW; go_simp
    have s0 : wz.frozen? ⟨w.heap.size, 0, none⟩ = false := by rw [← hW]; clear hW; go_simp
    have s1 : wz.frozen? ⟨w.heap.size, 1, none⟩ = false := by rw [← hW]; clear hW; go_simp
    have s2 : wz.frozen? ⟨w.heap.size, 2, none⟩ = false := by rw [← hW]; clear hW; go_simp
    have hz : Bel w wz := by rw [← hW]; exact (by repeat (first | exact Bel.refl _ | assumption | refine Bel.alloc ?_ _ | refine Bel.drew ?_ | refine Bel.set ?_ (by first | exact Nat.le_refl _ | (simp; done) | (simp; omega)) _))
    clear hW
    go_wp2_with fail
    have hX : ∀ j, j < 3 → ((wz.setCell ⟨w4.heap.size + 1, 1, none⟩ (.string ts)).cell? ⟨w.heap.size, j, none⟩).isSome = true := by
      intro j hj
      rw [World.cell?_setCell_other (h := ne_blk nr _ _)]
      match j, hj with
      | 0, _ => rw [o0]; rfl
      | 1, _ => rw [o1]; rfl
      | 2, _ => rw [o2]; rfl
    refine bodyPost_ret (res53 _ _ w.heap.size ⟨#[114, 97, 110, 103, 101]⟩ ts bk 4 4 rfl ?_ ?_ ?_) rfl ⟨_, _, _, _, rfl, (by repeat (first | exact Bel.refl _ | assumption | refine Bel.alloc ?_ _ | refine Bel.drew ?_ | refine Bel.set ?_ (by first | exact Nat.le_refl _ | (simp; done) | (simp; omega)) _))⟩
    · with_reducible exact (set3 _ w.heap.size _ _ _ hX).1
    · with_reducible exact (set3 _ w.heap.size _ _ _ hX).2.1
    · with_reducible exact (set3 _ w.heap.size _ _ _ hX).2.2
  · go_wp2_with fail
    with_reducible refine Calls.mono (Ht.out _ ?_) ?_
    · exact (by repeat (first | exact Bel.refl _ | assumption | refine Bel.alloc ?_ _ | refine Bel.drew ?_ | refine Bel.set ?_ (by first | exact Nat.le_refl _ | (simp; done) | (simp; omega)) _))
    rintro e wz ⟨ts, rfl, hW⟩
    have zr : w.heap.size ≤ w4.heap.size + 1 := by omega
    have nr : ¬ w4.heap.size + 1 = w.heap.size := by omega
    have nr2 : ¬ w.heap.size = w4.heap.size + 1 := by omega
    have g0 : wz.cell? ⟨w4.heap.size + 1, 0, none⟩ = some (.string ⟨#[114, 97, 110, 103, 101]⟩) := by rw [← hW]; clear hW; go_simp
    have g1 : wz.cell? ⟨w4.heap.size + 1, 1, none⟩ = some (.string ⟨#[]⟩) := by rw [← hW]; clear hW; go_simp
    have g2 : wz.cell? ⟨w4.heap.size + 1, 2, none⟩ = some (.slice bk 4 4) := by rw [← hW]; clear hW; go_simp
    have o0 : wz.cell? ⟨w.heap.size, 0, none⟩ = some (.string ⟨#[]⟩) := by rw [← hW]; clear hW; go_simp
    have o1 : wz.cell? ⟨w.heap.size, 1, none⟩ = some (.string ⟨#[]⟩) := by rw [← hW]; clear hW; go_simp
    have o2 : wz.cell? ⟨w.heap.size, 2, none⟩ = some (.slice none 0 0) := by rw [← hW]; clear hW; go_simp
    have p0 : wz.frozen? ⟨w4.heap.size + 1, 0, none⟩ = false := by rw [← hW]; clear hW; go_simp
    have p1 : wz.frozen? ⟨w4.heap.size + 1, 1, none⟩ = false := by rw [← hW]; clear hW; go_simp
    have p2 : wz.frozen? ⟨w4.heap.size + 1, 2, none⟩ = false := by rw [← hW]; clear hW; go_simp
    have s0 : wz.frozen? ⟨w.heap.size, 0, none⟩ = false := by rw [← hW]; clear hW; go_simp
    have s1 : wz.frozen? ⟨w.heap.size, 1, none⟩ = false := by rw [← hW]; clear hW; go_simp
    have s2 : wz.frozen? ⟨w.heap.size, 2, none⟩ = false := by rw [← hW]; clear hW; go_simp
    have hz : Bel w wz := by rw [← hW]; exact (by repeat (first | exact Bel.refl _ | assumption | refine Bel.alloc ?_ _ | refine Bel.drew ?_ | refine Bel.set ?_ (by first | exact Nat.le_refl _ | (simp; done) | (simp; omega)) _))
    clear hW
    go_wp2_with fail
    have hX : ∀ j, j < 3 → ((wz.setCell ⟨w4.heap.size + 1, 1, none⟩ (.string ts)).cell? ⟨w.heap.size, j, none⟩).isSome = true := by
      intro j hj
      rw [World.cell?_setCell_other (h := ne_blk nr _ _)]
      match j, hj with
      | 0, _ => rw [o0]; rfl
      | 1, _ => rw [o1]; rfl
      | 2, _ => rw [o2]; rfl
    refine bodyPost_ret (res53 _ _ w.heap.size ⟨#[114, 97, 110, 103, 101]⟩ ts bk 4 4 rfl ?_ ?_ ?_) rfl ⟨_, _, _, _, rfl, (by repeat (first | exact Bel.refl _ | assumption | refine Bel.alloc ?_ _ | refine Bel.drew ?_ | refine Bel.set ?_ (by first | exact Nat.le_refl _ | (simp; done) | (simp; omega)) _))⟩
    · with_reducible exact (set3 _ w.heap.size _ _ _ hX).1
    · with_reducible exact (set3 _ w.heap.size _ _ _ hX).2.1
    · with_reducible exact (set3 _ w.heap.size _ _ _ hX).2.2
  · go_wp2_with fail
    with_reducible refine Calls.mono (Ht.out _ ?_) ?_
    · exact (by repeat (first | exact Bel.refl _ | assumption | refine Bel.alloc ?_ _ | refine Bel.drew ?_ | refine Bel.set ?_ (by first | exact Nat.le_refl _ | (simp; done) | (simp; omega)) _))
    rintro e wz ⟨ts, rfl, hW⟩
    have zr : w.heap.size ≤ w4.heap.size := by omega
    have nr : ¬ w4.heap.size = w.heap.size := by omega
    have nr2 : ¬ w.heap.size = w4.heap.size := by omega
    have g0 : wz.cell? ⟨w4.heap.size, 0, none⟩ = some (.string ⟨#[114, 97, 110, 103, 101]⟩) := by rw [← hW]; clear hW; go_simp
    have g1 : wz.cell? ⟨w4.heap.size, 1, none⟩ = some (.string ⟨#[]⟩) := by rw [← hW]; clear hW; go_simp
    have g2 : wz.cell? ⟨w4.heap.size, 2, none⟩ = some (.slice bk 4 4) := by rw [← hW]; clear hW; go_simp
    have o0 : wz.cell? ⟨w.heap.size, 0, none⟩ = some (.string ⟨#[]⟩) := by rw [← hW]; clear hW; go_simp
    have o1 : wz.cell? ⟨w.heap.size, 1, none⟩ = some (.string ⟨#[]⟩) := by rw [← hW]; clear hW; go_simp
    have o2 : wz.cell? ⟨w.heap.size, 2, none⟩ = some (.slice none 0 0) := by rw [← hW]; clear hW; go_simp
    have p0 : wz.frozen? ⟨w4.heap.size, 0, none⟩ = false := by rw [← hW]; clear hW; go_simp
    have p1 : wz.frozen? ⟨w4.heap.size, 1, none⟩ = false := by rw [← hW]; clear hW; go_simp
    have p2 : wz.frozen? ⟨w4.heap.size, 2, none⟩ = false := by rw [← hW]; clear hW; go_simp
    have s0 : wz.frozen? ⟨w.heap.size, 0, none⟩ = false := by rw [← hW]; clear hW; go_simp
    have s1 : wz.frozen? ⟨w.heap.size, 1, none⟩ = false := by rw [← hW]; clear hW; go_simp
    have s2 : wz.frozen? ⟨w.heap.size, 2, none⟩ = false := by rw [← hW]; clear hW; go_simp
    have hz : Bel w wz := by rw [← hW]; exact (by repeat (first | exact Bel.refl _ | assumption | refine Bel.alloc ?_ _ | refine Bel.drew ?_ | refine Bel.set ?_ (by first | exact Nat.le_refl _ | (simp; done) | (simp; omega)) _))
    clear hW
    go_wp2_with fail
    have hX : ∀ j, j < 3 → ((wz.setCell ⟨w4.heap.size, 1, none⟩ (.string ts)).cell? ⟨w.heap.size, j, none⟩).isSome = true := by
      intro j hj
      rw [World.cell?_setCell_other (h := ne_blk nr _ _)]
      match j, hj with
      | 0, _ => rw [o0]; rfl
      | 1, _ => rw [o1]; rfl
      | 2, _ => rw [o2]; rfl
    refine bodyPost_ret (res53 _ _ w.heap.size ⟨#[114, 97, 110, 103, 101]⟩ ts bk 4 4 rfl ?_ ?_ ?_) rfl ⟨_, _, _, _, rfl, (by repeat (first | exact Bel.refl _ | assumption | refine Bel.alloc ?_ _ | refine Bel.drew ?_ | refine Bel.set ?_ (by first | exact Nat.le_refl _ | (simp; done) | (simp; omega)) _))⟩
    · with_reducible exact (set3 _ w.heap.size _ _ _ hX).1
    · with_reducible exact (set3 _ w.heap.size _ _ _ hX).2.1
    · with_reducible exact (set3 _ w.heap.size _ _ _ hX).2.2
  · go_wp2_with fail
    with_reducible refine Calls.mono (Ht.out _ ?_) ?_
    · exact (by repeat (first | exact Bel.refl _ | assumption | refine Bel.alloc ?_ _ | refine Bel.drew ?_ | refine Bel.set ?_ (by first | exact Nat.le_refl _ | (simp; done) | (simp; omega)) _))
    rintro e wz ⟨ts, rfl, hW⟩
    have zr : w.heap.size ≤ w3.heap.size := by omega
    have nr : ¬ w3.heap.size = w.heap.size := by omega
    have nr2 : ¬ w.heap.size = w3.heap.size := by omega
    have g0 : wz.cell? ⟨w3.heap.size, 0, none⟩ = some (.string ⟨#[114, 97, 110, 103, 101]⟩) := by rw [← hW]; clear hW; go_simp
    have g1 : wz.cell? ⟨w3.heap.size, 1, none⟩ = some (.string ⟨#[]⟩) := by rw [← hW]; clear hW; go_simp
    have g2 : wz.cell? ⟨w3.heap.size, 2, none⟩ = some (.slice bk 4 4) := by rw [← hW]; clear hW; go_simp
    have o0 : wz.cell? ⟨w.heap.size, 0, none⟩ = some (.string ⟨#[]⟩) := by rw [← hW]; clear hW; go_simp
    have o1 : wz.cell? ⟨w.heap.size, 1, none⟩ = some (.string ⟨#[]⟩) := by rw [← hW]; clear hW; go_simp
    have o2 : wz.cell? ⟨w.heap.size, 2, none⟩ = some (.slice none 0 0) := by rw [← hW]; clear hW; go_simp
    have p0 : wz.frozen? ⟨w3.heap.size, 0, none⟩ = false := by rw [← hW]; clear hW; go_simp
    have p1 : wz.frozen? ⟨w3.heap.size, 1, none⟩ = false := by rw [← hW]; clear hW; go_simp
    have p2 : wz.frozen? ⟨w3.heap.size, 2, none⟩ = false := by rw [← hW]; clear hW; go_simp
    have s0 : wz.frozen? ⟨w.heap.size, 0, none⟩ = false := by rw [← hW]; clear hW; go_simp
    have s1 : wz.frozen? ⟨w.heap.size, 1, none⟩ = false := by rw [← hW]; clear hW; go_simp
    have s2 : wz.frozen? ⟨w.heap.size, 2, none⟩ = false := by rw [← hW]; clear hW; go_simp
    have hz : Bel w wz := by rw [← hW]; exact (by repeat (first | exact Bel.refl _ | assumption | refine Bel.alloc ?_ _ | refine Bel.drew ?_ | refine Bel.set ?_ (by first | exact Nat.le_refl _ | (simp; done) | (simp; omega)) _))
    clear hW
    go_wp2_with fail
    have hX : ∀ j, j < 3 → ((wz.setCell ⟨w3.heap.size, 1, none⟩ (.string ts)).cell? ⟨w.heap.size, j, none⟩).isSome = true := by
      intro j hj
      rw [World.cell?_setCell_other (h := ne_blk nr _ _)]
      match j, hj with
      | 0, _ => rw [o0]; rfl
      | 1, _ => rw [o1]; rfl
      | 2, _ => rw [o2]; rfl
    refine bodyPost_ret (res53 _ _ w.heap.size ⟨#[114, 97, 110, 103, 101]⟩ ts bk 4 4 rfl ?_ ?_ ?_) rfl ⟨_, _, _, _, rfl, (by repeat (first | exact Bel.refl _ | assumption | refine Bel.alloc ?_ _ | refine Bel.drew ?_ | refine Bel.set ?_ (by first | exact Nat.le_refl _ | (simp; done) | (simp; omega)) _))⟩
    · with_reducible exact (set3 _ w.heap.size _ _ _ hX).1
    · with_reducible exact (set3 _ w.heap.size _ _ _ hX).2.1
    · with_reducible exact (set3 _ w.heap.size _ _ _ hX).2.2
  · go_wp2_with fail
    with_reducible refine Calls.mono (Ht.out _ ?_) ?_
    · exact (by repeat (first | exact Bel.refl _ | assumption | refine Bel.alloc ?_ _ | refine Bel.drew ?_ | refine Bel.set ?_ (by first | exact Nat.le_refl _ | (simp; done) | (simp; omega)) _))
    rintro e wz ⟨ts, rfl, hW⟩
    have zr : w.heap.size ≤ w2.heap.size := by omega
    have nr : ¬ w2.heap.size = w.heap.size := by omega
    have nr2 : ¬ w.heap.size = w2.heap.size := by omega
    have g0 : wz.cell? ⟨w2.heap.size, 0, none⟩ = some (.string ⟨#[114, 97, 110, 103, 101]⟩) := by rw [← hW]; clear hW; go_simp
    have g1 : wz.cell? ⟨w2.heap.size, 1, none⟩ = some (.string ⟨#[]⟩) := by rw [← hW]; clear hW; go_simp
    have g2 : wz.cell? ⟨w2.heap.size, 2, none⟩ = some (.slice bk 4 4) := by rw [← hW]; clear hW; go_simp
    have o0 : wz.cell? ⟨w.heap.size, 0, none⟩ = some (.string ⟨#[]⟩) := by rw [← hW]; clear hW; go_simp
    have o1 : wz.cell? ⟨w.heap.size, 1, none⟩ = some (.string ⟨#[]⟩) := by rw [← hW]; clear hW; go_simp
    have o2 : wz.cell? ⟨w.heap.size, 2, none⟩ = some (.slice none 0 0) := by rw [← hW]; clear hW; go_simp
    have p0 : wz.frozen? ⟨w2.heap.size, 0, none⟩ = false := by rw [← hW]; clear hW; go_simp
    have p1 : wz.frozen? ⟨w2.heap.size, 1, none⟩ = false := by rw [← hW]; clear hW; go_simp
    have p2 : wz.frozen? ⟨w2.heap.size, 2, none⟩ = false := by rw [← hW]; clear hW; go_simp
    have s0 : wz.frozen? ⟨w.heap.size, 0, none⟩ = false := by rw [← hW]; clear hW; go_simp
    have s1 : wz.frozen? ⟨w.heap.size, 1, none⟩ = false := by rw [← hW]; clear hW; go_simp
    have s2 : wz.frozen? ⟨w.heap.size, 2, none⟩ = false := by rw [← hW]; clear hW; go_simp
    have hz : Bel w wz := by rw [← hW]; exact (by repeat (first | exact Bel.refl _ | assumption | refine Bel.alloc ?_ _ | refine Bel.drew ?_ | refine Bel.set ?_ (by first | exact Nat.le_refl _ | (simp; done) | (simp; omega)) _))
    clear hW
    go_wp2_with fail
    have hX : ∀ j, j < 3 → ((wz.setCell ⟨w2.heap.size, 1, none⟩ (.string ts)).cell? ⟨w.heap.size, j, none⟩).isSome = true := by
      intro j hj
      rw [World.cell?_setCell_other (h := ne_blk nr _ _)]
      match j, hj with
      | 0, _ => rw [o0]; rfl
      | 1, _ => rw [o1]; rfl
      | 2, _ => rw [o2]; rfl
    refine bodyPost_ret (res53 _ _ w.heap.size ⟨#[114, 97, 110, 103, 101]⟩ ts bk 4 4 rfl ?_ ?_ ?_) rfl ⟨_, _, _, _, rfl, (by repeat (first | exact Bel.refl _ | assumption | refine Bel.alloc ?_ _ | refine Bel.drew ?_ | refine Bel.set ?_ (by first | exact Nat.le_refl _ | (simp; done) | (simp; omega)) _))⟩
    · with_reducible exact (set3 _ w.heap.size _ _ _ hX).1
    · with_reducible exact (set3 _ w.heap.size _ _ _ hX).2.1
    · with_reducible exact (set3 _ w.heap.size _ _ _ hX).2.2
  · go_wp2_with fail
    with_reducible refine Calls.mono (Ht.out _ ?_) ?_
    · exact (by repeat (first | exact Bel.refl _ | assumption | refine Bel.alloc ?_ _ | refine Bel.drew ?_ | refine Bel.set ?_ (by first | exact Nat.le_refl _ | (simp; done) | (simp; omega)) _))
    rintro e wz ⟨ts, rfl, hW⟩
    have zr : w.heap.size ≤ w1.heap.size := by omega
    have nr : ¬ w1.heap.size = w.heap.size := by omega
    have nr2 : ¬ w.heap.size = w1.heap.size := by omega
    have g0 : wz.cell? ⟨w1.heap.size, 0, none⟩ = some (.string ⟨#[114, 97, 110, 103, 101]⟩) := by rw [← hW]; clear hW; go_simp
    have g1 : wz.cell? ⟨w1.heap.size, 1, none⟩ = some (.string ⟨#[]⟩) := by rw [← hW]; clear hW; go_simp
    have g2 : wz.cell? ⟨w1.heap.size, 2, none⟩ = some (.slice bk 4 4) := by rw [← hW]; clear hW; go_simp
    have o0 : wz.cell? ⟨w.heap.size, 0, none⟩ = some (.string ⟨#[]⟩) := by rw [← hW]; clear hW; go_simp
    have o1 : wz.cell? ⟨w.heap.size, 1, none⟩ = some (.string ⟨#[]⟩) := by rw [← hW]; clear hW; go_simp
    have o2 : wz.cell? ⟨w.heap.size, 2, none⟩ = some (.slice none 0 0) := by rw [← hW]; clear hW; go_simp
    have p0 : wz.frozen? ⟨w1.heap.size, 0, none⟩ = false := by rw [← hW]; clear hW; go_simp
    have p1 : wz.frozen? ⟨w1.heap.size, 1, none⟩ = false := by rw [← hW]; clear hW; go_simp
    have p2 : wz.frozen? ⟨w1.heap.size, 2, none⟩ = false := by rw [← hW]; clear hW; go_simp
    have s0 : wz.frozen? ⟨w.heap.size, 0, none⟩ = false := by rw [← hW]; clear hW; go_simp
    have s1 : wz.frozen? ⟨w.heap.size, 1, none⟩ = false := by rw [← hW]; clear hW; go_simp
    have s2 : wz.frozen? ⟨w.heap.size, 2, none⟩ = false := by rw [← hW]; clear hW; go_simp
    have hz : Bel w wz := by rw [← hW]; exact (by repeat (first | exact Bel.refl _ | assumption | refine Bel.alloc ?_ _ | refine Bel.drew ?_ | refine Bel.set ?_ (by first | exact Nat.le_refl _ | (simp; done) | (simp; omega)) _))
    clear hW
    go_wp2_with fail
    have hX : ∀ j, j < 3 → ((wz.setCell ⟨w1.heap.size, 1, none⟩ (.string ts)).cell? ⟨w.heap.size, j, none⟩).isSome = true := by
      intro j hj
      rw [World.cell?_setCell_other (h := ne_blk nr _ _)]
      match j, hj with
      | 0, _ => rw [o0]; rfl
      | 1, _ => rw [o1]; rfl
      | 2, _ => rw [o2]; rfl
    refine bodyPost_ret (res53 _ _ w.heap.size ⟨#[114, 97, 110, 103, 101]⟩ ts bk 4 4 rfl ?_ ?_ ?_) rfl ⟨_, _, _, _, rfl, (by repeat (first | exact Bel.refl _ | assumption | refine Bel.alloc ?_ _ | refine Bel.drew ?_ | refine Bel.set ?_ (by first | exact Nat.le_refl _ | (simp; done) | (simp; omega)) _))⟩
    · with_reducible exact (set3 _ w.heap.size _ _ _ hX).1
    · with_reducible exact (set3 _ w.heap.size _ _ _ hX).2.1
    · with_reducible exact (set3 _ w.heap.size _ _ _ hX).2.2
  · go_wp2_with fail
    with_reducible refine Calls.mono (Ht.out _ ?_) ?_
    · exact (by repeat (first | exact Bel.refl _ | assumption | refine Bel.alloc ?_ _ | refine Bel.drew ?_ | refine Bel.set ?_ (by first | exact Nat.le_refl _ | (simp; done) | (simp; omega)) _))
    rintro e wz ⟨ts, rfl, hW⟩
    have zr : w.heap.size ≤ w.heap.size + 1 := by omega
    have nr : ¬ w.heap.size + 1 = w.heap.size := by omega
    have nr2 : ¬ w.heap.size = w.heap.size + 1 := by omega
    have g0 : wz.cell? ⟨w.heap.size + 1, 0, none⟩ = some (.string ⟨#[114, 97, 110, 103, 101]⟩) := by rw [← hW]; clear hW; go_simp
    have g1 : wz.cell? ⟨w.heap.size + 1, 1, none⟩ = some (.string ⟨#[]⟩) := by rw [← hW]; clear hW; go_simp
    have g2 : wz.cell? ⟨w.heap.size + 1, 2, none⟩ = some (.slice bk 4 4) := by rw [← hW]; clear hW; go_simp
    have o0 : wz.cell? ⟨w.heap.size, 0, none⟩ = some (.string ⟨#[]⟩) := by rw [← hW]; clear hW; go_simp
    have o1 : wz.cell? ⟨w.heap.size, 1, none⟩ = some (.string ⟨#[]⟩) := by rw [← hW]; clear hW; go_simp
    have o2 : wz.cell? ⟨w.heap.size, 2, none⟩ = some (.slice none 0 0) := by rw [← hW]; clear hW; go_simp
    have p0 : wz.frozen? ⟨w.heap.size + 1, 0, none⟩ = false := by rw [← hW]; clear hW; go_simp
    have p1 : wz.frozen? ⟨w.heap.size + 1, 1, none⟩ = false := by rw [← hW]; clear hW; go_simp
    have p2 : wz.frozen? ⟨w.heap.size + 1, 2, none⟩ = false := by rw [← hW]; clear hW; go_simp
    have s0 : wz.frozen? ⟨w.heap.size, 0, none⟩ = false := by rw [← hW]; clear hW; go_simp
    have s1 : wz.frozen? ⟨w.heap.size, 1, none⟩ = false := by rw [← hW]; clear hW; go_simp
    have s2 : wz.frozen? ⟨w.heap.size, 2, none⟩ = false := by rw [← hW]; clear hW; go_simp
    have hz : Bel w wz := by rw [← hW]; exact (by repeat (first | exact Bel.refl _ | assumption | refine Bel.alloc ?_ _ | refine Bel.drew ?_ | refine Bel.set ?_ (by first | exact Nat.le_refl _ | (simp; done) | (simp; omega)) _))
    clear hW
    go_wp2_with fail
    have hX : ∀ j, j < 3 → ((wz.setCell ⟨w.heap.size + 1, 1, none⟩ (.string ts)).cell? ⟨w.heap.size, j, none⟩).isSome = true := by
      intro j hj
      rw [World.cell?_setCell_other (h := ne_blk nr _ _)]
      match j, hj with
      | 0, _ => rw [o0]; rfl
      | 1, _ => rw [o1]; rfl
      | 2, _ => rw [o2]; rfl
    refine bodyPost_ret (res53 _ _ w.heap.size ⟨#[114, 97, 110, 103, 101]⟩ ts bk 4 4 rfl ?_ ?_ ?_) rfl ⟨_, _, _, _, rfl, (by repeat (first | exact Bel.refl _ | assumption | refine Bel.alloc ?_ _ | refine Bel.drew ?_ | refine Bel.set ?_ (by first | exact Nat.le_refl _ | (simp; done) | (simp; omega)) _))⟩
    · with_reducible exact (set3 _ w.heap.size _ _ _ hX).1
    · with_reducible exact (set3 _ w.heap.size _ _ _ hX).2.1
    · with_reducible exact (set3 _ w.heap.size _ _ _ hX).2.2

end Go.Proofs.YtkkgfgllfbahlaaGreatFmt
