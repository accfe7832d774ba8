/- impl.expr at each kind of node (printed by gen_cv.py).
impl.list makes a row of nodes (printed by gen_cl2.py).
impl.clause: a node ahead of the row of a list. -/
import Derived.Test.YtkkgfgllfbahlaaGreatFmtBU
import Derived.Deep.RegionHeld3
import Derived.Deep.AppendLies
import Derived.OwnWalk
import Derived.LoopTactic
set_option linter.unusedVariables false
set_option linter.unusedSimpArgs false
namespace Go.Proofs.YtkkgfgllfbahlaaGreatFmt
open Go Go.RowKit
set_option linter.unusedSimpArgs false

set_option maxRecDepth 100000 in
set_option maxHeartbeats 4000000 in
theorem cv_ident (p : Int) (s : ByteArray)  : CvE (.ident p s) := by
  intro S v w ha hS hk h0
  obtain ⟨ad, rfl, had, c0, c1, c2⟩ := At_ident.1 ha
  have hlt := hS ad had
  have hne1 : ¬ ad = w.heap.size := by omega
  have hne2 : ¬ w.heap.size = ad := by omega
  have taH := ta_hit ptr_Ident 80
  clear ha
  go_enter Tryz.func54, Tryz.ntmps54
  go_wp2_with fail
  refine bodyPost_ret (v := .agg #[.string ⟨#[110, 97, 109, 101]⟩, .string s, .slice none 0 0]) (by simp [*, results, Tryz.results54, go_sem]) rfl ⟨_, _, _, _, rfl, (by repeat (first | exact Bel.refl _ | assumption | refine Bel.alloc ?_ _ | refine Bel.drew ?_ | refine Bel.set ?_ (by first | exact Nat.le_refl _ | (simp; done) | (simp; omega)) _))⟩

set_option maxRecDepth 100000 in
set_option maxHeartbeats 4000000 in
theorem cv_lit (p : Int) (q : Int) (k : Int) (s : ByteArray)  : CvE (.lit p q k s) := by
  intro S v w ha hS hk h0
  obtain ⟨ad, rfl, had, c0, c1, c2, c3⟩ := At_lit.1 ha
  have hlt := hS ad had
  have hne1 : ¬ ad = w.heap.size := by omega
  have hne2 : ¬ w.heap.size = ad := by omega
  have taIdent := ta_miss ptr_Ident 81 80 rfl
  have taH := ta_hit ptr_BasicLit 80
  clear ha
  go_enter Tryz.func54, Tryz.ntmps54
  go_wp2_with fail
  refine bodyPost_ret (v := .agg #[.string ⟨#[108, 105, 116, 101, 114, 97, 108]⟩, .string s, .slice none 0 0]) (by simp [*, results, Tryz.results54, go_sem]) rfl ⟨_, _, _, _, rfl, (by repeat (first | exact Bel.refl _ | assumption | refine Bel.alloc ?_ _ | refine Bel.drew ?_ | refine Bel.set ?_ (by first | exact Nat.le_refl _ | (simp; done) | (simp; omega)) _))⟩

set_option maxRecDepth 100000 in
set_option maxHeartbeats 4000000 in
theorem cv_paren (l : Int) (x : Ast) (r : Int) (hx : CvE x) : CvE (.paren l x r) := by
  intro S v w ha hS hk h0
  obtain ⟨ad, rfl, had, vx, c0, c1, ax, c2⟩ := At_paren.1 ha
  have hlt := hS ad had
  have hne1 : ¬ ad = w.heap.size := by omega
  have hne2 : ¬ w.heap.size = ad := by omega
  have Hx := hide (hx.at ax hS hk h0)
  have taIdent := ta_miss ptr_Ident 106 80 rfl
  have taBasicLit := ta_miss ptr_BasicLit 106 80 rfl
  have taH := ta_hit ptr_ParenExpr 80
  clear ha
  go_enter Tryz.func54, Tryz.ntmps54
  go_wp2_with fail
  with_reducible refine Calls.mono (Hx.out _ ?_) ?_
  · exact (by repeat (first | exact Bel.refl _ | assumption | refine Bel.alloc ?_ _ | refine Bel.drew ?_ | refine Bel.set ?_ (by first | exact Nat.le_refl _ | (simp; done) | (simp; omega)) _))
  rintro e w1 ⟨t1, b1, n1, m1, rfl, hT1⟩
  have hw1 : Bel w w1 := Bel.trans (by repeat (first | exact Bel.refl _ | assumption | refine Bel.alloc ?_ _ | refine Bel.drew ?_ | refine Bel.set ?_ (by first | exact Nat.le_refl _ | (simp; done) | (simp; omega)) _)) hT1
  have z1 := hT1.le
  try simp only [World.size_alloc, World.size_setCell, size_drewN, World.size_drew] at z1
  obtain ⟨c1_0, f1_0, l1_0, n1_0, m1_0⟩ := hT1.facts (b := w.heap.size) (by (first | omega | (simp only [World.size_alloc, World.size_setCell, size_drewN, World.size_drew] <;> omega)))
  obtain ⟨c1_1, f1_1, l1_1, n1_1, m1_1⟩ := hw1.facts (b := ad) (by (first | omega | (simp only [World.size_alloc, World.size_setCell, size_drewN, World.size_drew] <;> omega)))
  go_wp2_with fail
  refine (kids_any _ _ _ _).mono ?_
  rintro e wz ⟨bk, rfl, rfl⟩
  go_wp2_with fail
  refine bodyPost_ret (v := .agg #[.string ⟨#[112, 97, 114, 101, 110]⟩, .string ⟨#[]⟩, .slice bk 1 1]) (by simp [*, results, Tryz.results54, go_sem]) rfl ⟨_, _, _, _, rfl, (by repeat (first | exact Bel.refl _ | assumption | refine Bel.alloc ?_ _ | refine Bel.drew ?_ | refine Bel.set ?_ (by first | exact Nat.le_refl _ | (simp; done) | (simp; omega)) _))⟩

set_option maxRecDepth 100000 in
set_option maxHeartbeats 4000000 in
theorem cv_unary (p : Int) (t : Int) (x : Ast) (ht : tokR t) (hx : CvE x) : CvE (.unary p t x) := by
  intro S v w ha hS hk h0
  obtain ⟨ad, rfl, had, vx, c0, c1, c2, ax⟩ := At_unary.1 ha
  have hlt := hS ad had
  have hne1 : ¬ ad = w.heap.size := by omega
  have hne2 : ¬ w.heap.size = ad := by omega
  have Hx := hide (hx.at ax hS hk h0)
  have Ht := hide (tok_at ht hk h0)
  have taIdent := ta_miss ptr_Ident 130 80 rfl
  have taBasicLit := ta_miss ptr_BasicLit 130 80 rfl
  have taParenExpr := ta_miss ptr_ParenExpr 130 80 rfl
  have taH := ta_hit ptr_UnaryExpr 80
  clear ha
  go_enter Tryz.func54, Tryz.ntmps54
  go_wp2_with fail
  go_region_held3 (fun w' => w'.cell? ⟨ad, 1, none⟩ = some (.int .i64 t) ∧ w'.cell? ⟨ad, 2, none⟩ = some vx) (go_keep) (first
    | (go_at_call 79
       with_reducible refine Calls.mono (Ht.out _ ?_) ?_
       · exact (by repeat (first | exact Bel.refl _ | assumption | refine Bel.alloc ?_ _ | refine Bel.drew ?_ | refine Bel.set ?_ (by first | exact Nat.le_refl _ | (simp; done) | (simp; omega)) _))
       rintro e wz ⟨ts, rfl, rfl⟩
      )
    | (go_at_call 54
       with_reducible refine Calls.mono (Hx.out _ ?_) ?_
       · exact (by repeat (first | exact Bel.refl _ | assumption | refine Bel.alloc ?_ _ | refine Bel.drew ?_ | refine Bel.set ?_ (by first | exact Nat.le_refl _ | (simp; done) | (simp; omega)) _))
       rintro e w1 ⟨t1, b1, n1, m1, rfl, hT1⟩
       have hw1 : Bel w w1 := Bel.trans (by repeat (first | exact Bel.refl _ | assumption | refine Bel.alloc ?_ _ | refine Bel.drew ?_ | refine Bel.set ?_ (by first | exact Nat.le_refl _ | (simp; done) | (simp; omega)) _)) hT1
       have z1 := hT1.le
       try simp only [World.size_alloc, World.size_setCell, size_drewN, World.size_drew] at z1
       obtain ⟨c1_0, f1_0, l1_0, n1_0, m1_0⟩ := hT1.facts (b := w.heap.size) (by (first | omega | (simp only [World.size_alloc, World.size_setCell, size_drewN, World.size_drew] <;> omega)))
       obtain ⟨c1_1, f1_1, l1_1, n1_1, m1_1⟩ := hw1.facts (b := ad) (by (first | omega | (simp only [World.size_alloc, World.size_setCell, size_drewN, World.size_drew] <;> omega)))
      )
    | (go_at_call 78
       refine (kids_any _ _ _ _).mono ?_
       rintro e wz ⟨bk, rfl, rfl⟩
      )
)
  go_wp2_with fail
  refine bodyPost_ret (v := .agg #[.string ⟨#[117, 110, 97, 114, 121]⟩, .string ts, .slice bk 1 1]) (by simp [*, results, Tryz.results54, go_sem]) rfl ⟨_, _, _, _, rfl, (by repeat (first | exact Bel.refl _ | assumption | refine Bel.alloc ?_ _ | refine Bel.drew ?_ | refine Bel.set ?_ (by first | exact Nat.le_refl _ | (simp; done) | (simp; omega)) _))⟩

set_option maxRecDepth 100000 in
set_option maxHeartbeats 4000000 in
theorem cv_binary (x : Ast) (p : Int) (t : Int) (y : Ast) (ht : tokR t) (hx : CvE x) (hy : CvE y) : CvE (.binary x p t y) := by
  intro S v w ha hS hk h0
  obtain ⟨ad, rfl, had, vx, vy, c0, ax, c1, c2, c3, ay⟩ := At_binary.1 ha
  have hlt := hS ad had
  have hne1 : ¬ ad = w.heap.size := by omega
  have hne2 : ¬ w.heap.size = ad := by omega
  have Hx := hide (hx.at ax hS hk h0)
  have Hy := hide (hy.at ay hS hk h0)
  have Ht := hide (tok_at ht hk h0)
  have taIdent := ta_miss ptr_Ident 134 80 rfl
  have taBasicLit := ta_miss ptr_BasicLit 134 80 rfl
  have taParenExpr := ta_miss ptr_ParenExpr 134 80 rfl
  have taUnaryExpr := ta_miss ptr_UnaryExpr 134 80 rfl
  have taH := ta_hit ptr_BinaryExpr 80
  clear ha
  go_enter Tryz.func54, Tryz.ntmps54
  go_wp2_with fail
  go_region_held3 (fun w' => w'.cell? ⟨ad, 0, none⟩ = some vx ∧ w'.cell? ⟨ad, 2, none⟩ = some (.int .i64 t) ∧ w'.cell? ⟨ad, 3, none⟩ = some vy) (go_keep) (first
    | (go_at_call 79
       with_reducible refine Calls.mono (Ht.out _ ?_) ?_
       · exact (by repeat (first | exact Bel.refl _ | assumption | refine Bel.alloc ?_ _ | refine Bel.drew ?_ | refine Bel.set ?_ (by first | exact Nat.le_refl _ | (simp; done) | (simp; omega)) _))
       rintro e wz ⟨ts, rfl, rfl⟩
      )
    | (go_at_call 54
       with_reducible refine Calls.mono (Hx.out _ ?_) ?_
       · exact (by repeat (first | exact Bel.refl _ | assumption | refine Bel.alloc ?_ _ | refine Bel.drew ?_ | refine Bel.set ?_ (by first | exact Nat.le_refl _ | (simp; done) | (simp; omega)) _))
       rintro e w1 ⟨t1, b1, n1, m1, rfl, hT1⟩
       have hw1 : Bel w w1 := Bel.trans (by repeat (first | exact Bel.refl _ | assumption | refine Bel.alloc ?_ _ | refine Bel.drew ?_ | refine Bel.set ?_ (by first | exact Nat.le_refl _ | (simp; done) | (simp; omega)) _)) hT1
       have z1 := hT1.le
       try simp only [World.size_alloc, World.size_setCell, size_drewN, World.size_drew] at z1
       obtain ⟨c1_0, f1_0, l1_0, n1_0, m1_0⟩ := hT1.facts (b := w.heap.size) (by (first | omega | (simp only [World.size_alloc, World.size_setCell, size_drewN, World.size_drew] <;> omega)))
       obtain ⟨c1_1, f1_1, l1_1, n1_1, m1_1⟩ := hw1.facts (b := ad) (by (first | omega | (simp only [World.size_alloc, World.size_setCell, size_drewN, World.size_drew] <;> omega)))
      )
    | (go_at_call 54
       with_reducible refine Calls.mono (Hy.out _ ?_) ?_
       · exact (by repeat (first | exact Bel.refl _ | assumption | refine Bel.alloc ?_ _ | refine Bel.drew ?_ | refine Bel.set ?_ (by first | exact Nat.le_refl _ | (simp; done) | (simp; omega)) _))
       rintro e w2 ⟨t2, b2, n2, m2, rfl, hT2⟩
       have hw2 : Bel w w2 := Bel.trans (by repeat (first | exact Bel.refl _ | assumption | refine Bel.alloc ?_ _ | refine Bel.drew ?_ | refine Bel.set ?_ (by first | exact Nat.le_refl _ | (simp; done) | (simp; omega)) _)) hT2
       have z2 := hT2.le
       try simp only [World.size_alloc, World.size_setCell, size_drewN, World.size_drew] at z2
       obtain ⟨c2_0, f2_0, l2_0, n2_0, m2_0⟩ := hT2.facts (b := w.heap.size) (by (first | omega | (simp only [World.size_alloc, World.size_setCell, size_drewN, World.size_drew] <;> omega)))
       obtain ⟨c2_1, f2_1, l2_1, n2_1, m2_1⟩ := hw2.facts (b := ad) (by (first | omega | (simp only [World.size_alloc, World.size_setCell, size_drewN, World.size_drew] <;> omega)))
      )
    | (go_at_call 78
       refine (kids_any _ _ _ _).mono ?_
       rintro e wz ⟨bk, rfl, rfl⟩
      )
)
  go_wp2_with fail
  refine bodyPost_ret (v := .agg #[.string ⟨#[98, 105, 110, 97, 114, 121]⟩, .string ts, .slice bk 2 2]) (by simp [*, results, Tryz.results54, go_sem]) rfl ⟨_, _, _, _, rfl, (by repeat (first | exact Bel.refl _ | assumption | refine Bel.alloc ?_ _ | refine Bel.drew ?_ | refine Bel.set ?_ (by first | exact Nat.le_refl _ | (simp; done) | (simp; omega)) _))⟩

end Go.Proofs.YtkkgfgllfbahlaaGreatFmt

namespace Go.Proofs.YtkkgfgllfbahlaaGreatFmt
open Go Go.RowKit
set_option linter.unusedSimpArgs false

theorem info_node : (Tryz.prog.info? 24).map (fun i => (i.zero, i.size, i.bytes)) = some (some (.agg #[.string ⟨#[]⟩, .string ⟨#[]⟩, .slice none 0 0]), 3, 56) := by kernel_rfl
theorem under_nodes : Tryz.prog.underlying 22 = some (.slice 24) := by kernel_rfl
theorem ownsRow_bel {w w' : World} {base e size n : Nat} {v : Value} {xs : List Value} (h : w.ownsRow base e size v n xs) (hb : Bel w w') : w'.ownsRow base e size v n xs :=
  h.kept (row := none) ⟨hb.os, hb.tape, hb.output, hb.size, fun k hk _ => hb.block k hk⟩ (by cases v.ownBlock <;> simp)
theorem Bel.row {w wb w4 : World} {row : Option Nat} (h : Bel w wb) (hg : wb.grownBy w4 row) (hr : ∀ g, row = some g → w.heap.size ≤ g) : Bel w w4 :=
  ⟨hg.os.trans h.os, hg.tape.trans h.tape, hg.output.trans h.output, Nat.le_trans h.size hg.size, fun k hk => (hg.block k (Nat.lt_of_lt_of_le hk h.size) (fun e => by have := hr k e.symm; omega)).trans (h.block k hk)⟩
theorem AtR.get {S : Nat → Prop} {w : World} : ∀ {l : List Ast} {b o i : Nat} {a : Ast}, AtR S w l b o → l[i]? = some a → ∃ v, S b ∧ w.cell? ⟨b, o + i, none⟩ = some v ∧ At S w a v
  | [], _, _, _, _, _, h => by simp at h
  | x :: l, b, o, 0, a, hr, h => by
    simp only [List.getElem?_cons_zero, Option.some.injEq] at h
    subst h
    simp only [AtR] at hr
    obtain ⟨v, hb, c, ha, _⟩ := hr
    exact ⟨v, hb, c, ha⟩
  | x :: l, b, o, i + 1, a, hr, h => by
    simp only [AtR] at hr
    obtain ⟨_, _, _, _, hr⟩ := hr
    obtain ⟨v, hb, c, ha⟩ := hr.get (i := i) (a := a) (by simpa using h)
    exact ⟨v, hb, by rw [← c]; congr 2; omega, ha⟩
/-- The relation of a loop that appends nodes. -/
def LiRel (n : Nat) (w : World) (v c : Value) (wr : World) : Prop := ∃ (i : Nat) (vs : List Value), i ≤ n ∧ c = .int .i64 i ∧ wr.ownsRow w.heap.size 24 3 v i vs ∧ Bel w wr ∧ ∀ u ∈ vs, u.oneCell' = true
def LiPost (n : Nat) (w : World) (e : Ending) (w' : World) : Prop := ∃ v vs, e = .returned v ∧ w'.ownsRow w.heap.size 24 3 v n vs ∧ Bel w w' ∧ ∀ u ∈ vs, u.oneCell' = true

set_option maxRecDepth 100000 in
set_option maxHeartbeats 2000000 in
theorem list_e (l : List Ast) (hlen : l.length ≤ 400) (S : Nat → Prop) (v : Value) (w : World) (has : AtS S w l v) (hS : ∀ k, S k → k < w.heap.size) (hH : ∀ (i : Nat) (a : Ast) (va : Value), l[i]? = some a → At S w a va → FE va a.kind w) :
    Calls Tryz.prog 81 #[v, .func (.func 54) #[] #[]] w (LiPost l.length w) := by
  obtain ⟨i0, hi, hz0, hz1, hz2⟩ := info_parts info_node
  have HH := hide hH
  clear hH
  rcases has with ⟨rfl, rfl⟩ | ⟨sb, so, cap, rfl, hc, hm, hr⟩
  · go_enter Tryz.func81, Tryz.ntmps81
    go_wp2_with fail
    refine wp_loop_rounds 1 ?_
    rw [rounds_succ]
    go_wp2_with fail
    go_ret
    exact ⟨_, [], rfl, World.ownsRow_nil _ _ _ _, Bel.refl _, by simp⟩
  · have HR := hide hr
    clear hr
    go_enter Tryz.func81, Tryz.ntmps81
    go_wp2_with fail
    go_loopw [5, 10] (fun v c wr => LiRel l.length w v c wr) (fun _ c _ => l.length - (intOf c).toNat)
    case atStart => exact ⟨0, [], Nat.zero_le _, rfl, World.ownsRow_nil _ _ _ _, Bel.refl _, by simp⟩
    case round =>
      obtain ⟨i, vs, hin, rfl, hown, hbr, hone⟩ := hrel
      have HN := hide hone
      clear hone
      by_cases hlt : i < l.length
      · obtain ⟨a, ha⟩ : ∃ a, l[i]? = some a := ⟨l[i], by simp⟩
        obtain ⟨va, hsb, ca, haa⟩ := HR.out.get ha
        have s0 := (hbr.at (hS sb hsb) (so + i)).trans ca
        have HX := hide (HH.out i a va ha haa)
        have HO := hide hown
        have hzr := hbr.le
        clear hown ha haa ca
        go_wp2_with fail
        with_reducible refine Calls.mono (HX.out _ hbr) ?_
        rintro e w2 ⟨t2, b2, n2, m2, rfl, hT2⟩
        go_wp2_with (first
          | (at_builtin
             have hbX : Bel w2 (w2.alloc (.cells #[.string a.kind, .string t2, .slice b2 n2 m2] 24)) := Bel.alloc (Bel.refl _) _
             refine wpList_append_lies _ rfl _ _ 22 rfl w.heap.size 24 i0 _ 3 56 under_nodes hi hz0 hz1 hz2 rfl (by decide) _ _ _ rfl (ownsRow_bel HO.out (hT2.trans hbX)) ⟨w2.heap.size, 0, none⟩ 1 1 [.string a.kind, .string t2, .slice b2 n2 m2] rfl rfl (World.news_of_block (heap_alloc_new w2 (.cells #[.string a.kind, .string t2, .slice b2 n2 m2] 24))) (fun u hu => by simp at hu; rcases hu with rfl | rfl | rfl <;> rfl) (by decide) (by unfold maxLen; omega) (by omega) (by have := hT2.le; simp; omega) _ rfl ?_
             intro g cap4 w4 hown4 hgrow4 hat4 hlt4))
        have HG := hide (show _ ∧ _ from ⟨hown4, hgrow4⟩)
        clear hown4 hgrow4
        go_wp2_with fail
        go_roundw
        case rel =>
          obtain ⟨hown4, hgrow4⟩ := HG.out
          exact ⟨i + 1, _, hlt, by go_num, hown4, (hbr.trans (hT2.trans hbX)).row hgrow4 fun g hg => (HO.out.lt g hg).1, fun u hu => by
            rcases List.mem_append.1 hu with hu | hu
            · exact HN.out u hu
            · simp at hu; rcases hu with rfl | rfl | rfl <;> rfl⟩
        case measure => simp [intOf]; omega
      · have hie : i = l.length := by omega
        subst hie
        have HO := hide hown
        clear hown
        go_wp2_with fail
        go_ret
        exact ⟨_, vs, rfl, HO.out, hbr, HN.out⟩

set_option maxRecDepth 100000 in
set_option maxHeartbeats 2000000 in
theorem list_s (l : List Ast) (hlen : l.length ≤ 400) (S : Nat → Prop) (v : Value) (w : World) (has : AtS S w l v) (hS : ∀ k, S k → k < w.heap.size) (hH : ∀ (i : Nat) (a : Ast) (va : Value), l[i]? = some a → At S w a va → FS va a.kind w) :
    Calls Tryz.prog 90 #[v, .func (.func 53) #[] #[]] w (LiPost l.length w) := by
  obtain ⟨i0, hi, hz0, hz1, hz2⟩ := info_parts info_node
  have HH := hide hH
  clear hH
  rcases has with ⟨rfl, rfl⟩ | ⟨sb, so, cap, rfl, hc, hm, hr⟩
  · go_enter Tryz.func90, Tryz.ntmps90
    go_wp2_with fail
    refine wp_loop_rounds 1 ?_
    rw [rounds_succ]
    go_wp2_with fail
    go_ret
    exact ⟨_, [], rfl, World.ownsRow_nil _ _ _ _, Bel.refl _, by simp⟩
  · have HR := hide hr
    clear hr
    go_enter Tryz.func90, Tryz.ntmps90
    go_wp2_with fail
    go_loopw [5, 10] (fun v c wr => LiRel l.length w v c wr) (fun _ c _ => l.length - (intOf c).toNat)
    case atStart => exact ⟨0, [], Nat.zero_le _, rfl, World.ownsRow_nil _ _ _ _, Bel.refl _, by simp⟩
    case round =>
      obtain ⟨i, vs, hin, rfl, hown, hbr, hone⟩ := hrel
      have HN := hide hone
      clear hone
      by_cases hlt : i < l.length
      · obtain ⟨a, ha⟩ : ∃ a, l[i]? = some a := ⟨l[i], by simp⟩
        obtain ⟨va, hsb, ca, haa⟩ := HR.out.get ha
        have s0 := (hbr.at (hS sb hsb) (so + i)).trans ca
        have HX := hide (HH.out i a va ha haa)
        have HO := hide hown
        have hzr := hbr.le
        clear hown ha haa ca
        go_wp2_with fail
        with_reducible refine Calls.mono (HX.out _ hbr) ?_
        rintro e w2 ⟨t2, b2, n2, m2, rfl, hT2⟩
        go_wp2_with (first
          | (at_builtin
             have hbX : Bel w2 (w2.alloc (.cells #[.string a.kind, .string t2, .slice b2 n2 m2] 24)) := Bel.alloc (Bel.refl _) _
             refine wpList_append_lies _ rfl _ _ 22 rfl w.heap.size 24 i0 _ 3 56 under_nodes hi hz0 hz1 hz2 rfl (by decide) _ _ _ rfl (ownsRow_bel HO.out (hT2.trans hbX)) ⟨w2.heap.size, 0, none⟩ 1 1 [.string a.kind, .string t2, .slice b2 n2 m2] rfl rfl (World.news_of_block (heap_alloc_new w2 (.cells #[.string a.kind, .string t2, .slice b2 n2 m2] 24))) (fun u hu => by simp at hu; rcases hu with rfl | rfl | rfl <;> rfl) (by decide) (by unfold maxLen; omega) (by omega) (by have := hT2.le; simp; omega) _ rfl ?_
             intro g cap4 w4 hown4 hgrow4 hat4 hlt4))
        have HG := hide (show _ ∧ _ from ⟨hown4, hgrow4⟩)
        clear hown4 hgrow4
        go_wp2_with fail
        go_roundw
        case rel =>
          obtain ⟨hown4, hgrow4⟩ := HG.out
          exact ⟨i + 1, _, hlt, by go_num, hown4, (hbr.trans (hT2.trans hbX)).row hgrow4 fun g hg => (HO.out.lt g hg).1, fun u hu => by
            rcases List.mem_append.1 hu with hu | hu
            · exact HN.out u hu
            · simp at hu; rcases hu with rfl | rfl | rfl <;> rfl⟩
        case measure => simp [intOf]; omega
      · have hie : i = l.length := by omega
        subst hie
        have HO := hide hown
        clear hown
        go_wp2_with fail
        go_ret
        exact ⟨_, vs, rfl, HO.out, hbr, HN.out⟩

/-- A value that a function answers on, from w on. -/
abbrev FL1 (v : Value) (n : Nat) (w : World) : Prop := ∀ W, Bel w W → Calls Tryz.prog 81 #[v, .func (.func 54) #[] #[]] W (LiPost n W)
abbrev FL2 (v : Value) (n : Nat) (w : World) : Prop := ∀ W, Bel w W → Calls Tryz.prog 90 #[v, .func (.func 53) #[] #[]] W (LiPost n W)
abbrev FX (v : Value) (w : World) : Prop := ∀ W, Bel w W → Calls Tryz.prog 80 #[v] W (CvPost ⟨#[108, 105, 115, 116]⟩ W)
abbrev FB (v : Value) (w : World) : Prop := ∀ W, Bel w W → Calls Tryz.prog 82 #[v] W (CvPost ⟨#[98, 108, 111, 99, 107]⟩ W)
abbrev FC (v : Value) (w : World) : Prop := ∀ (W : World) (k t : ByteArray) (b : Option Addr) (n c : Nat), Bel w W → Calls Tryz.prog 83 #[.agg #[.string k, .string t, .slice b n c], v] W (CvPost ⟨#[99, 108, 97, 117, 115, 101]⟩ W)
theorem fl1 {l : List Ast} (h : ∀ a, a ∈ l → CvE a) (hlen : l.length ≤ 400) {S : Nat → Prop} {v : Value} {w : World} (ha : AtS S w l v) (hS : ∀ k, S k → k < w.heap.size) (hk : TokTab w) (h0 : 0 < w.heap.size) : FL1 v l.length w := fun W hb =>
  list_e l hlen S v W (ha.stay (fun _ h => h) (hb.mid hS)) (fun k hk => Nat.lt_of_lt_of_le (hS k hk) hb.le) fun i a va hi haa => (h a (List.mem_of_getElem? hi)).at haa (fun k hk => Nat.lt_of_lt_of_le (hS k hk) hb.le) (hk.bel h0 hb) (Nat.lt_of_lt_of_le h0 hb.le)
theorem fl2 {l : List Ast} (h : ∀ a, a ∈ l → CvS a) (hlen : l.length ≤ 400) {S : Nat → Prop} {v : Value} {w : World} (ha : AtS S w l v) (hS : ∀ k, S k → k < w.heap.size) (hk : TokTab w) (h0 : 0 < w.heap.size) : FL2 v l.length w := fun W hb =>
  list_s l hlen S v W (ha.stay (fun _ h => h) (hb.mid hS)) (fun k hk => Nat.lt_of_lt_of_le (hS k hk) hb.le) fun i a va hi haa => (h a (List.mem_of_getElem? hi)).at haa (fun k hk => Nat.lt_of_lt_of_le (hS k hk) hb.le) (hk.bel h0 hb) (Nat.lt_of_lt_of_le h0 hb.le)
theorem own_slice {w : World} {base e size n : Nat} {v : Value} {xs : List Value} (h : w.ownsRow base e size v n xs) : ∃ a c, v = .slice a n c := by
  rcases h.2 with ⟨rfl, rfl⟩ | ⟨g, cap, cur, rfl, -⟩ <;> exact ⟨_, _, rfl⟩
theorem exprs_any {l : List Ast} (h : ∀ a, a ∈ l → CvE a) (hlen : l.length ≤ 400) {S : Nat → Prop} {v : Value} {w : World} (ha : AtS S w l v) (hS : ∀ k, S k → k < w.heap.size) (hk : TokTab w) (h0 : 0 < w.heap.size) : FX v w := by
  intro W hb
  have HL := hide (fl1 h hlen ha hS hk h0)
  clear h ha
  go_enter Tryz.func80, Tryz.ntmps80
  go_wp2_with fail
  with_reducible refine Calls.mono (HL.out _ (hb.trans (Bel.alloc (Bel.refl _) _))) ?_
  rintro e w1 ⟨v1, vs, rfl, hown, hT1, -⟩
  obtain ⟨b1, c1, rfl⟩ := own_slice hown
  have cc := hT1.at (b := W.heap.size) (by simp)
  have ff := hT1.atf (b := W.heap.size) (by simp)
  have hw : Bel W w1 := Bel.trans (Bel.alloc (Bel.refl _) _) hT1
  clear hown
  go_wp2_with fail
  refine bodyPost_ret (v := .agg #[.string ⟨#[108, 105, 115, 116]⟩, .string ⟨#[]⟩, .slice b1 l.length c1]) (by simp [*, results, Tryz.results80, go_sem]) rfl ⟨_, _, _, _, rfl, (by repeat (first | exact Bel.refl _ | assumption | refine Bel.alloc ?_ _ | refine Bel.drew ?_ | refine Bel.set ?_ (by first | exact Nat.le_refl _ | (simp; done) | (simp; omega)) _))⟩
set_option maxRecDepth 100000 in
theorem cv_expr_nil (w : World) : FE .nilIface ⟨#[110, 111, 110, 101]⟩ w := by
  intro W hb
  go_enter Tryz.func54, Tryz.ntmps54
  go_wp2_with fail
  refine (none_any _).mono ?_
  rintro e w1 ⟨t1, b1, n1, m1, rfl, hT1⟩
  have cc := hT1.at (b := W.heap.size) (by simp)
  have ff := hT1.atf (b := W.heap.size) (by simp)
  have hw : Bel W w1 := Bel.trans (Bel.alloc (Bel.refl _) _) hT1
  go_wp2_with fail
  refine bodyPost_ret (v := .agg #[.string ⟨#[110, 111, 110, 101]⟩, .string t1, .slice b1 n1 m1]) (by simp [*, results, Tryz.results54, go_sem]) rfl ⟨_, _, _, _, rfl, (by repeat (first | exact Bel.refl _ | assumption | refine Bel.alloc ?_ _ | refine Bel.drew ?_ | refine Bel.set ?_ (by first | exact Nat.le_refl _ | (simp; done) | (simp; omega)) _))⟩
set_option maxRecDepth 100000 in
theorem cv_stmt_nil (w : World) : FS .nilIface ⟨#[110, 111, 110, 101]⟩ w := by
  intro W hb
  go_enter Tryz.func53, Tryz.ntmps53
  go_wp2_with fail
  refine (none_any _).mono ?_
  rintro e w1 ⟨t1, b1, n1, m1, rfl, hT1⟩
  have cc := hT1.at (b := W.heap.size) (by simp)
  have ff := hT1.atf (b := W.heap.size) (by simp)
  have hw : Bel W w1 := Bel.trans (Bel.alloc (Bel.refl _) _) hT1
  go_wp2_with fail
  refine bodyPost_ret (v := .agg #[.string ⟨#[110, 111, 110, 101]⟩, .string t1, .slice b1 n1 m1]) (by simp [*, results, Tryz.results53, go_sem]) rfl ⟨_, _, _, _, rfl, (by repeat (first | exact Bel.refl _ | assumption | refine Bel.alloc ?_ _ | refine Bel.drew ?_ | refine Bel.set ?_ (by first | exact Nat.le_refl _ | (simp; done) | (simp; omega)) _))⟩
def kindO : Option Ast → ByteArray
  | none => ⟨#[110, 111, 110, 101]⟩
  | some a => a.kind
theorem cvEO {o : Option Ast} (h : ∀ a, o = some a → CvE a) {S : Nat → Prop} {v : Value} {w : World} (ha : AtO S w o v) (hS : ∀ k, S k → k < w.heap.size) (hk : TokTab w) (h0 : 0 < w.heap.size) : FE v (kindO o) w := by
  cases o with
  | none => rw [AtO_none] at ha; subst ha; exact cv_expr_nil w
  | some a => exact (h a rfl).at (AtO_some.1 ha) hS hk h0
theorem cvSO {o : Option Ast} (h : ∀ a, o = some a → CvS a) {S : Nat → Prop} {v : Value} {w : World} (ha : AtO S w o v) (hS : ∀ k, S k → k < w.heap.size) (hk : TokTab w) (h0 : 0 < w.heap.size) : FS v (kindO o) w := by
  cases o with
  | none => rw [AtO_none] at ha; subst ha; exact cv_stmt_nil w
  | some a => exact (h a rfl).at (AtO_some.1 ha) hS hk h0
/-- A block, behind its pointer. -/
def CvB (z : Ast) : Prop := ∀ (S : Nat → Prop) (q : Value) (w : World), At S w z (.iface 98 q) → (∀ k, S k → k < w.heap.size) → TokTab w → 0 < w.heap.size → FB q w
theorem block_any {l : Int} {a : List Ast} {r : Int} (h : ∀ x, x ∈ a → CvS x) (hlen : a.length ≤ 400) : CvB (.block l a r) := by
  intro S q w ha hS hk h0 W hb
  obtain ⟨ad, hq, had, va, c0, c1, al, c2⟩ := At_block.1 ha
  injection hq with _ hq
  subst hq
  have hlt := Nat.lt_of_lt_of_le (hS ad had) hb.le
  have hne1 : ¬ ad = W.heap.size := by omega
  have hne2 : ¬ W.heap.size = ad := by omega
  have c1 := (hb.at (hS ad had) 1).trans c1
  have HL := hide (fl2 h hlen al hS hk h0)
  clear h ha al c0 c2
  go_enter Tryz.func82, Tryz.ntmps82
  go_wp2_with fail
  with_reducible refine Calls.mono (HL.out _ (hb.trans (Bel.alloc (Bel.refl _) _))) ?_
  rintro e w1 ⟨v1, vs, rfl, hown, hT1, -⟩
  obtain ⟨b1, d1, rfl⟩ := own_slice hown
  have cc := hT1.at (b := W.heap.size) (by simp)
  have ff := hT1.atf (b := W.heap.size) (by simp)
  have hw : Bel W w1 := Bel.trans (Bel.alloc (Bel.refl _) _) hT1
  clear hown
  go_wp2_with fail
  refine bodyPost_ret (v := .agg #[.string ⟨#[98, 108, 111, 99, 107]⟩, .string ⟨#[]⟩, .slice b1 a.length d1]) (by simp [*, results, Tryz.results82, go_sem]) rfl ⟨_, _, _, _, rfl, (by repeat (first | exact Bel.refl _ | assumption | refine Bel.alloc ?_ _ | refine Bel.drew ?_ | refine Bel.set ?_ (by first | exact Nat.le_refl _ | (simp; done) | (simp; omega)) _))⟩
theorem At.block {S : Nat → Prop} {w : World} {z : Ast} {q : Value} (h : At S w z (.iface 98 q)) : ∃ l a r, z = .block l a r := by
  obtain ⟨b, hv, -⟩ := h.ptr
  injection hv with hv _
  cases z <;> simp [Ast.ptype] at hv
  exact ⟨_, _, _, rfl⟩
theorem At.ident {S : Nat → Prop} {w : World} {z : Ast} {q : Value} (h : At S w z (.iface 85 q)) : ∃ p s, z = .ident p s := by
  obtain ⟨b, hv, -⟩ := h.ptr
  injection hv with hv _
  cases z <;> simp [Ast.ptype] at hv
  exact ⟨_, _, rfl⟩
/-- The name behind a pointer to it. -/
theorem At.name {S : Nat → Prop} {w : World} {z : Ast} {vy : Nat} (h : At S w z (.iface 85 (.pointer (some ⟨vy, 0, none⟩)))) : ∃ s, S vy ∧ w.cell? ⟨vy, 1, none⟩ = some (.string s) := by
  obtain ⟨p, s, rfl⟩ := h.ident
  obtain ⟨ad, hv, h1, c0, c1, c2⟩ := At_ident.1 h
  injection hv with _ hv
  injection hv with hv
  injection hv with hv
  injection hv with hv
  subst hv
  exact ⟨s, h1, c1⟩
end Go.Proofs.YtkkgfgllfbahlaaGreatFmt

namespace Go.Proofs.YtkkgfgllfbahlaaGreatFmt
open Go Go.RowKit
set_option linter.unusedSimpArgs false

theorem kids_same (b : Option Addr) (n c : Nat) (w : World) : Calls Tryz.prog 78 #[.slice b n c] w fun e w' => e = .returned (.slice b n c) ∧ w = w' := by
  go_enter Tryz.func78, Tryz.ntmps78
  go_wp2_with fail
  go_ret
  exact ⟨rfl, rfl⟩
/-- The cells of a row that is owned. -/
theorem row_news {w : World} {base e size n : Nat} {v : Value} {xs : List Value} (h : w.ownsRow base e size v n xs) (hn : 0 < n) : ∃ g cap, v = .slice (some ⟨g, 0, none⟩) n cap ∧ xs.length = n * size ∧ ∀ j u, xs[j]? = some u → w.cell? ((⟨g, 0, none⟩ : Addr).add j) = some u := by
  rcases h.2 with ⟨_, h0⟩ | ⟨g, cap, cur, rfl, hb, hg, h1, h2, h3, h4⟩
  · omega
  · refine ⟨g, cap, rfl, h.1, fun j u hu => ?_⟩
    refine World.news_of_block hg j u ?_
    rw [← h4] at hu
    rw [List.getElem?_take] at hu
    split at hu
    · exact hu
    · simp at hu
/-- A block that was made now is owned. -/
theorem own_new {w w1 : World} {base e size n : Nat} {cs : Array Value} (hb : base ≤ w.heap.size) (h : w1.heap[w.heap.size]? = some (.cells cs e)) (hc : cs.size = n * size) (hn : n ≤ maxLen) : w1.ownsRow base e size (.slice (some ⟨w.heap.size, 0, none⟩) n n) n cs.toList :=
  ⟨by simpa using hc, .inr ⟨w.heap.size, n, cs, rfl, hb, h, Nat.le_refl _, hn, hc, by rw [List.take_of_length_le]; simp [hc]⟩⟩

set_option maxRecDepth 100000 in
set_option maxHeartbeats 2000000 in
theorem clause_any {l : List Ast} (h : ∀ a, a ∈ l → CvS a) (hlen : l.length ≤ 400) {S : Nat → Prop} {v : Value} {w : World} (ha : AtS S w l v) (hS : ∀ k, S k → k < w.heap.size) (hk : TokTab w) (h0 : 0 < w.heap.size) : FC v w := by
  intro W k t b n c hb
  obtain ⟨i0, hi, hz0, hz1, hz2⟩ := info_parts info_node
  have HL := hide (fl2 h hlen ha hS hk h0)
  have HB := hide hb
  clear h ha hb
  go_enter Tryz.func83, Tryz.ntmps83
  go_wp2_with fail
  refine (kids_same _ _ _ _).mono ?_
  rintro e wz ⟨rfl, rfl⟩
  go_wp2_with fail
  have hW : Bel W (((W.alloc (.cells #[.string k, .string t, .slice b n c] 24)).alloc (.cells #[.string ⟨#[]⟩, .string ⟨#[]⟩, .slice none 0 0] 24)).alloc (.cells #[.string k, .string t, .slice b n c] 24)) := (by repeat (first | exact Bel.refl _ | assumption | refine Bel.alloc ?_ _ | refine Bel.drew ?_ | refine Bel.set ?_ (by first | exact Nat.le_refl _ | (simp; done) | (simp; omega)) _))
  with_reducible refine Calls.mono (HL.out _ (HB.out.trans hW)) ?_
  rintro e w1 ⟨v1, vs, rfl, hown, hT1, hone⟩
  have cc := hT1.at (b := W.heap.size + 1) (by simp)
  have ff := hT1.atf (b := W.heap.size + 1) (by simp)
  have hw : Bel W w1 := Bel.trans hW hT1
  have z1 := hT1.le
  simp only [World.size_alloc] at z1
  have hd : w1.heap[W.heap.size + 2]? = some (.cells #[.string k, .string t, .slice b n c] 24) := by
    refine (hT1.block _ (by simp)).trans ?_
    have := heap_alloc_new ((W.alloc (.cells #[.string k, .string t, .slice b n c] 24)).alloc (.cells #[.string ⟨#[]⟩, .string ⟨#[]⟩, .slice none 0 0] 24)) (.cells #[.string k, .string t, .slice b n c] 24)
    simpa using this
  have HD : w1.ownsRow (W.heap.size + 2) 24 3 (.slice (some ⟨W.heap.size + 1 + 1, 0, none⟩) 1 1) 1 [.string k, .string t, .slice b n c] := ⟨rfl, .inr ⟨_, 1, _, rfl, Nat.le_refl _, hd, Nat.le_refl _, by decide, rfl, rfl⟩⟩
  have HD := hide HD
  rcases Nat.eq_zero_or_pos l.length with hz | hz
  · rw [hz] at hown
    rcases hown.2 with ⟨rfl, -⟩ | ⟨g, cap, cur, rfl, -⟩
    all_goals clear hd hown
    all_goals go_wp2_with fail
    all_goals exact bodyPost_ret (v := .agg #[.string ⟨#[99, 108, 97, 117, 115, 101]⟩, .string ⟨#[]⟩, .slice (some ⟨W.heap.size + 1 + 1, 0, none⟩) 1 1]) (by simp [*, results, Tryz.results83, go_sem]) rfl ⟨_, _, _, _, rfl, (by repeat (first | exact Bel.refl _ | assumption | refine Bel.alloc ?_ _ | refine Bel.drew ?_ | refine Bel.set ?_ (by first | exact Nat.le_refl _ | (simp; done) | (simp; omega)) _))⟩
  · obtain ⟨g, cap, rfl, hl, hnews⟩ := row_news hown hz
    have HN := hide (show _ ∧ _ ∧ _ from ⟨hl, hnews, hone⟩)
    clear hl hnews hone hown hd
    go_wp2_with (first
      | (at_builtin
         refine wpList_append_lies _ rfl _ _ 22 rfl (W.heap.size + 2) 24 i0 _ 3 56 under_nodes hi hz0 hz1 hz2 rfl (by decide) (.slice (some ⟨W.heap.size + 1 + 1, 0, none⟩) 1 1) 1 [.string k, .string t, .slice b n c] rfl HD.out ⟨g, 0, none⟩ l.length cap vs rfl HN.out.1 HN.out.2.1 HN.out.2.2 hz (by unfold maxLen; omega) (by omega) (by omega) _ rfl ?_
         intro g4 cap4 w4 hown4 hgrow4 hat4 hlt4
         have c4 : ∀ j, w4.cell? ⟨W.heap.size + 1, j, none⟩ = w1.cell? ⟨W.heap.size + 1, j, none⟩ := fun j => World.cell?_of_block (hgrow4.block (W.heap.size + 1) (by omega) (by intro e; simp [Value.ownBlock] at e))
         have f4 : ∀ j, w4.frozen? ⟨W.heap.size + 1, j, none⟩ = w1.frozen? ⟨W.heap.size + 1, j, none⟩ := fun j => World.frozen?_of_block (hgrow4.block (W.heap.size + 1) (by omega) (by intro e; simp [Value.ownBlock] at e))
         have hw4 : Bel W w4 := hw.row hgrow4 (fun g hg => by simp [Value.ownBlock] at hg; subst hg; omega)))
    clear hown4 hgrow4 hat4 hlt4
    go_wp2_with fail
    refine bodyPost_ret (v := .agg #[.string ⟨#[99, 108, 97, 117, 115, 101]⟩, .string ⟨#[]⟩, .slice (some ⟨g4, 0, none⟩) (1 + l.length) cap4]) (by simp [*, results, Tryz.results83, go_sem]) rfl ⟨_, _, _, _, rfl, (by repeat (first | exact Bel.refl _ | assumption | refine Bel.alloc ?_ _ | refine Bel.drew ?_ | refine Bel.set ?_ (by first | exact Nat.le_refl _ | (simp; done) | (simp; omega)) _))⟩
end Go.Proofs.YtkkgfgllfbahlaaGreatFmt
