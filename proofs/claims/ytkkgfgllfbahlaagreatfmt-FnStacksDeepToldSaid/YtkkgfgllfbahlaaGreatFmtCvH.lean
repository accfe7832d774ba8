/- impl.expr at a call (printed by gen_cv.py). -/
import Derived.Test.YtkkgfgllfbahlaaGreatFmtCvE
import Derived.Test.YtkkgfgllfbahlaaGreatFmtBU
import Derived.Deep.RegionHeld3
set_option linter.unusedVariables false
set_option linter.unusedSimpArgs false
namespace Go.Proofs.YtkkgfgllfbahlaaGreatFmt
open Go Go.RowKit
set_option linter.unusedSimpArgs false

theorem list_nil (n : Nat) (v : Value) (hv : v = .slice none 0 0 ∨ ∃ b o cap, v = .slice (some ⟨b, o, none⟩) 0 cap) (W : World) :
    Calls Tryz.prog 81 #[v, .func (.func 54) #[] #[]] W fun e W' => e = .returned (.slice none 0 0) ∧ W = W' := by
  rcases hv with rfl | ⟨b, o, cap, rfl⟩
  · go_enter Tryz.func81, Tryz.ntmps81
    go_wp2_with fail
    refine wp_loop_rounds 1 ?_
    rw [rounds_succ]
    go_wp2_with fail
    go_ret
    exact ⟨rfl, rfl⟩
  · go_enter Tryz.func81, Tryz.ntmps81
    go_wp2_with fail
    refine wp_loop_rounds 1 ?_
    rw [rounds_succ]
    go_wp2_with fail
    go_ret
    exact ⟨rfl, rfl⟩
set_option maxRecDepth 100000 in
set_option maxHeartbeats 4000000 in
theorem cv_call0 (x : Ast) (l : Int) (a : List Ast) (q : Int) (r : Int) (hx : CvE x) (hha : ∀ z, z ∈ a → CvE z) (hla : a.length ≤ 400) (hz : a.length = 0) : CvE (.call x l a q r) := by
  intro S v w ha hS hk h0
  obtain ⟨ad, rfl, had, vx, va, c0, ax, c1, c2, aa, c3, c4⟩ := At_call.1 ha
  have hlt := hS ad had
  have hne1 : ¬ ad = w.heap.size := by omega
  have hne2 : ¬ w.heap.size = ad := by omega
  obtain ⟨i0, hi, hz0, hz1, hz2⟩ := info_parts info_node
  have Hx := hide (hx.at ax hS hk h0)
  have Ha := hide (list_nil 0 va (aa.elim (fun h => .inl h.1) (fun ⟨sb, so, cap, h, _⟩ => .inr ⟨sb, so, cap, by rw [h, hz]⟩)))
  have taIdent := ta_miss ptr_Ident 124 80 rfl
  have taBasicLit := ta_miss ptr_BasicLit 124 80 rfl
  have taParenExpr := ta_miss ptr_ParenExpr 124 80 rfl
  have taUnaryExpr := ta_miss ptr_UnaryExpr 124 80 rfl
  have taBinaryExpr := ta_miss ptr_BinaryExpr 124 80 rfl
  have taSelectorExpr := ta_miss ptr_SelectorExpr 124 80 rfl
  have taIndexExpr := ta_miss ptr_IndexExpr 124 80 rfl
  have taH := ta_hit ptr_CallExpr 80
  clear ha
  go_enter Tryz.func54, Tryz.ntmps54
  go_wp2_with fail
  go_region_held3 (fun w' => w'.cell? ⟨ad, 0, none⟩ = some vx ∧ w'.cell? ⟨ad, 2, none⟩ = some va) (go_keep) (first
    | (go_at_call 54
       with_reducible refine Calls.mono (Hx.out _ ?_) ?_
       · exact (by repeat (first | exact Bel.refl _ | assumption | refine Bel.alloc ?_ _ | refine Bel.drew ?_ | refine Bel.set ?_ (by first | exact Nat.le_refl _ | (simp; done) | (simp; omega)) _))
       rintro e w1 ⟨t1, b1, n1, m1, rfl, hT1⟩
       have hw1 : Bel w w1 := Bel.trans (by repeat (first | exact Bel.refl _ | assumption | refine Bel.alloc ?_ _ | refine Bel.drew ?_ | refine Bel.set ?_ (by first | exact Nat.le_refl _ | (simp; done) | (simp; omega)) _)) hT1
       have z1 := hT1.le
       try simp only [World.size_alloc, World.size_setCell, size_drewN, World.size_drew] at z1
       obtain ⟨c1_0, f1_0, l1_0, n1_0, m1_0⟩ := hT1.facts (b := w.heap.size) (by (first | omega | (simp only [World.size_alloc, World.size_setCell, size_drewN, World.size_drew] <;> omega)))
       obtain ⟨c1_1, f1_1, l1_1, n1_1, m1_1⟩ := hw1.facts (b := ad) (by (first | omega | (simp only [World.size_alloc, World.size_setCell, size_drewN, World.size_drew] <;> omega)))
      )
    | (go_at_call 78
       refine (kids_same _ _ _ _).mono ?_
       rintro e wz ⟨rfl, rfl⟩
      )
    | (go_at_call 81
       with_reducible refine Calls.mono (Ha.out _) ?_
       rintro e w2 ⟨rfl, rfl⟩
      )
)
  go_wp2_with fail
  refine bodyPost_ret (v := .agg #[.string ⟨#[99, 97, 108, 108]⟩, .string ⟨#[]⟩, .slice (some ⟨w1.heap.size, 0, none⟩) 1 1]) (by simp [*, results, Tryz.results54, go_sem]) rfl ⟨_, _, _, _, rfl, (by repeat (first | exact Bel.refl _ | assumption | refine Bel.alloc ?_ _ | refine Bel.drew ?_ | refine Bel.set ?_ (by first | exact Nat.le_refl _ | (simp; done) | (simp; omega)) _))⟩

set_option maxRecDepth 100000 in
set_option maxHeartbeats 4000000 in
theorem cv_call1 (x : Ast) (l : Int) (a : List Ast) (q : Int) (r : Int) (hx : CvE x) (hha : ∀ z, z ∈ a → CvE z) (hla : a.length ≤ 400) (hz : 0 < a.length) : CvE (.call x l a q r) := by
  intro S v w ha hS hk h0
  obtain ⟨ad, rfl, had, vx, va, c0, ax, c1, c2, aa, c3, c4⟩ := At_call.1 ha
  have hlt := hS ad had
  have hne1 : ¬ ad = w.heap.size := by omega
  have hne2 : ¬ w.heap.size = ad := by omega
  obtain ⟨i0, hi, hz0, hz1, hz2⟩ := info_parts info_node
  have Hx := hide (hx.at ax hS hk h0)
  have Ha := hide (fl1 hha hla aa hS hk h0)
  have taIdent := ta_miss ptr_Ident 124 80 rfl
  have taBasicLit := ta_miss ptr_BasicLit 124 80 rfl
  have taParenExpr := ta_miss ptr_ParenExpr 124 80 rfl
  have taUnaryExpr := ta_miss ptr_UnaryExpr 124 80 rfl
  have taBinaryExpr := ta_miss ptr_BinaryExpr 124 80 rfl
  have taSelectorExpr := ta_miss ptr_SelectorExpr 124 80 rfl
  have taIndexExpr := ta_miss ptr_IndexExpr 124 80 rfl
  have taH := ta_hit ptr_CallExpr 80
  clear ha
  go_enter Tryz.func54, Tryz.ntmps54
  go_wp2_with fail
  go_region_held3 (fun w' => w'.cell? ⟨ad, 0, none⟩ = some vx ∧ w'.cell? ⟨ad, 2, none⟩ = some va) (go_keep) (first
    | (go_at_call 54
       with_reducible refine Calls.mono (Hx.out _ ?_) ?_
       · exact (by repeat (first | exact Bel.refl _ | assumption | refine Bel.alloc ?_ _ | refine Bel.drew ?_ | refine Bel.set ?_ (by first | exact Nat.le_refl _ | (simp; done) | (simp; omega)) _))
       rintro e w1 ⟨t1, b1, n1, m1, rfl, hT1⟩
       have hw1 : Bel w w1 := Bel.trans (by repeat (first | exact Bel.refl _ | assumption | refine Bel.alloc ?_ _ | refine Bel.drew ?_ | refine Bel.set ?_ (by first | exact Nat.le_refl _ | (simp; done) | (simp; omega)) _)) hT1
       have z1 := hT1.le
       try simp only [World.size_alloc, World.size_setCell, size_drewN, World.size_drew] at z1
       obtain ⟨c1_0, f1_0, l1_0, n1_0, m1_0⟩ := hT1.facts (b := w.heap.size) (by (first | omega | (simp only [World.size_alloc, World.size_setCell, size_drewN, World.size_drew] <;> omega)))
       obtain ⟨c1_1, f1_1, l1_1, n1_1, m1_1⟩ := hw1.facts (b := ad) (by (first | omega | (simp only [World.size_alloc, World.size_setCell, size_drewN, World.size_drew] <;> omega)))
      )
    | (go_at_call 78
       refine (kids_same _ _ _ _).mono ?_
       rintro e wz ⟨rfl, rfl⟩
      )
    | (go_at_call 81
       with_reducible refine Calls.mono (Ha.out _ ?_) ?_
       · exact (by repeat (first | exact Bel.refl _ | assumption | refine Bel.alloc ?_ _ | refine Bel.drew ?_ | refine Bel.set ?_ (by first | exact Nat.le_refl _ | (simp; done) | (simp; omega)) _))
       rintro e w2 ⟨v2, vs2, rfl, hown2, hT2, hone2⟩
       obtain ⟨g2, cap2, hv2, hl2, hnews2⟩ := row_news hown2 hz
       subst hv2
       have HN := hide (show _ ∧ _ ∧ _ from ⟨hl2, hnews2, hone2⟩)
       clear hown2 hone2 hl2 hnews2
       have hw2 : Bel w w2 := Bel.trans (by repeat (first | exact Bel.refl _ | assumption | refine Bel.alloc ?_ _ | refine Bel.drew ?_ | refine Bel.set ?_ (by first | exact Nat.le_refl _ | (simp; done) | (simp; omega)) _)) hT2
       have z2 := hT2.le
       try simp only [World.size_alloc, World.size_setCell, size_drewN, World.size_drew] at z2
       obtain ⟨c2_0, f2_0, l2_0, n2_0, m2_0⟩ := hT2.facts (b := w.heap.size) (by (first | omega | (simp only [World.size_alloc, World.size_setCell, size_drewN, World.size_drew] <;> omega)))
       obtain ⟨c2_1, f2_1, l2_1, n2_1, m2_1⟩ := hw2.facts (b := ad) (by (first | omega | (simp only [World.size_alloc, World.size_setCell, size_drewN, World.size_drew] <;> omega)))
       have HD := hide (show w2.heap[w1.heap.size]? = some (.cells #[.string x.kind, .string t1, .slice b1 n1 m1] 24) from (hT2.block w1.heap.size (by simp)).trans (heap_alloc_new w1 (.cells #[.string x.kind, .string t1, .slice b1 n1 m1] 24)))
      )
    | (refine step_append_lies _ rfl _ _ 22 rfl w1.heap.size 24 i0 _ 3 56 under_nodes hi hz0 hz1 hz2 rfl (by decide) (.slice (some ⟨w1.heap.size, 0, none⟩) 1 1) 1 [.string x.kind, .string t1, .slice b1 n1 m1] rfl ⟨rfl, .inr ⟨_, 1, _, rfl, Nat.le_refl _, HD.out, Nat.le_refl _, by decide, rfl, rfl⟩⟩ ⟨g2, 0, none⟩ a.length cap2 vs2 rfl HN.out.1 HN.out.2.1 HN.out.2.2 hz (by unfold maxLen; omega) (by omega) (by omega) _ rfl ?_
       intro g4 cap4 w4 hown4 hgrow4 hat4 hlt4
       have c4_0 : ∀ j, w4.cell? ⟨w.heap.size, j, none⟩ = w2.cell? ⟨w.heap.size, j, none⟩ := fun j => World.cell?_of_block (hgrow4.block w.heap.size (by omega) (by intro e; simp [Value.ownBlock] at e; omega))
       have f4_0 : ∀ j, w4.frozen? ⟨w.heap.size, j, none⟩ = w2.frozen? ⟨w.heap.size, j, none⟩ := fun j => World.frozen?_of_block (hgrow4.block w.heap.size (by omega) (by intro e; simp [Value.ownBlock] at e; omega))
       have hw4 : Bel w w4 := hw2.row hgrow4 (fun g hg => by simp [Value.ownBlock] at hg; subst hg; omega)
       have c4_1 := hw4.at (b := ad) hlt
       clear hown4 hgrow4 hat4
      )
)
  go_wp2_with fail
  refine bodyPost_ret (v := .agg #[.string ⟨#[99, 97, 108, 108]⟩, .string ⟨#[]⟩, .slice (some ⟨g4, 0, none⟩) (1 + a.length) cap4]) (by simp [*, results, Tryz.results54, go_sem]) rfl ⟨_, _, _, _, rfl, (by repeat (first | exact Bel.refl _ | assumption | refine Bel.alloc ?_ _ | refine Bel.drew ?_ | refine Bel.set ?_ (by first | exact Nat.le_refl _ | (simp; done) | (simp; omega)) _))⟩

theorem cv_call (x : Ast) (l : Int) (a : List Ast) (q : Int) (r : Int) (hx : CvE x) (hha : ∀ z, z ∈ a → CvE z) (hla : a.length ≤ 400) : CvE (.call x l a q r) := by
  rcases Nat.eq_zero_or_pos a.length with hz | hz
  · exact cv_call0 x l a q r hx hha hla hz
  · exact cv_call1 x l a q r hx hha hla hz
end Go.Proofs.YtkkgfgllfbahlaaGreatFmt
