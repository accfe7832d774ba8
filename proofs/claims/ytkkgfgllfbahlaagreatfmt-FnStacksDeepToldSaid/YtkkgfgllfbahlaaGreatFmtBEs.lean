/- builder.exprs: a list of expressions; a row built by append, whose elements are nodes that were built.
rest, builder.call; builder.expr at a call, at an assertion without a type; builder.expr at every expression.
builder.stmts, builder.block. -/
import Derived.Test.YtkkgfgllfbahlaaGreatFmtBld
import Derived.Deep.AppendLies
import Derived.OwnWalk
import Derived.LoopTactic
set_option linter.unusedVariables false
set_option linter.unusedSimpArgs false
namespace Go.Proofs.YtkkgfgllfbahlaaGreatFmt
open Go Go.RowKit
set_option linter.unusedSimpArgs false

/-- Blocks from lo on and below hi, but for one. -/
def Av (lo hi : Nat) (ob : Option Nat) (k : Nat) : Prop := lo ≤ k ∧ k < hi ∧ ob ≠ some k
/-- The values vs lie for the nodes xs. -/
def Els (S : Nat → Prop) (w : World) (xs : List Ast) (vs : List Value) : Prop := xs.length = vs.length ∧ ∀ (j : Nat) (a : Ast) (u : Value), xs[j]? = some a → vs[j]? = some u → At S w a u
theorem Els.stay {S S1 : Nat → Prop} {w w1 : World} {xs : List Ast} {vs : List Value} (h : Els S w xs vs) (hS : ∀ k, S k → S1 k) (hm : Mid S w w1) : Els S1 w1 xs vs :=
  ⟨h.1, fun j a u ha hu => (h.2 j a u ha hu).stay hS hm⟩
theorem Els.snoc {S : Nat → Prop} {w : World} {xs : List Ast} {vs : List Value} {a : Ast} {v : Value} (h : Els S w xs vs) (ha : At S w a v) : Els S w (xs ++ [a]) (vs ++ [v]) := by
  refine ⟨by simp [h.1], fun j b u hb hu => ?_⟩
  rcases Nat.lt_or_ge j xs.length with hj | hj
  · rw [List.getElem?_append_left hj] at hb
    rw [List.getElem?_append_left (by rw [← h.1]; exact hj)] at hu
    exact h.2 j b u hb hu
  · rw [List.getElem?_append_right hj] at hb
    rw [List.getElem?_append_right (by rw [← h.1]; exact hj), ← h.1] at hu
    cases hq : j - xs.length with
    | zero => rw [hq] at hb hu; simp at hb hu; subst hb hu; exact ha
    | succ q => rw [hq] at hb; simp at hb

theorem atR_of {S : Nat → Prop} {w : World} {g : Nat} (hg : S g) : ∀ (xs : List Ast) (vs : List Value) (o : Nat), Els S w xs vs → (∀ j u, vs[j]? = some u → w.cell? ⟨g, o + j, none⟩ = some u) → AtR S w xs g o
  | [], _, _, _, _ => by simp [AtR]
  | a :: xs, [], _, h, _ => by have hh := h.1; simp at hh
  | a :: xs, v :: vs, o, h, hc => by
    simp only [AtR]
    refine ⟨v, hg, by simpa using hc 0 v (by simp), h.2 0 a v (by simp) (by simp), atR_of hg xs vs (o + 1) ⟨by have hh := h.1; simpa using hh, fun j b u hb hu => h.2 (j + 1) b u (by simpa using hb) (by simpa using hu)⟩ fun j u hu => ?_⟩
    have := hc (j + 1) u (by simpa using hu)
    rwa [show o + 1 + j = o + (j + 1) by omega]

/-- A row of one-cell elements that the call owns, as a slice of nodes. -/
theorem atS_of {S : Nat → Prop} {w : World} {base : Nat} {e : TypeId} {v : Value} {n : Nat} {xs : List Ast} {vs : List Value} (h : w.ownsRow base e 1 v n vs) (hE : Els S w xs vs) (hg : ∀ g, v.ownBlock = some g → S g) : AtS S w xs v := by
  have hl : xs.length = n := by have := h.1; have := hE.1; omega
  rcases h.2 with ⟨rfl, rfl⟩ | ⟨g, cap, cur, rfl, hb, hgg, h1, h2, h3, h4⟩
  · exact .inl ⟨rfl, List.length_eq_zero_iff.1 hl⟩
  · subst hl
    refine .inr ⟨g, 0, cap, rfl, h1, by simpa [maxLen] using h2, atR_of (hg g rfl) xs vs 0 hE fun j u hu => ?_⟩
    have := h.cells (g := g) rfl j u hu
    rcases j with _ | j <;> simpa [Addr.add] using this

theorem AtS.slice {S : Nat → Prop} {w : World} {xs : List Ast} {v : Value} (h : AtS S w xs v) : ∃ a n c, v = .slice a n c := by
  rcases h with ⟨rfl, _⟩ | ⟨_, _, _, rfl, _⟩
  · exact ⟨_, _, _, rfl⟩
  · exact ⟨_, _, _, rfl⟩
theorem AtS.wide {lo hi lo1 hi1 : Nat} {w w1 : World} {xs : List Ast} {v : Value} (h : AtS (In lo hi) w xs v) (hm : MidI lo hi w w1) (h1 : lo1 ≤ lo) (h2 : hi ≤ hi1) : AtS (In lo1 hi1) w1 xs v :=
  h.stay (fun k hk => ⟨Nat.le_trans h1 hk.1, Nat.lt_of_lt_of_le hk.2 h2⟩) hm
theorem But.grow {bb : Nat} {w w1 w2 : World} {row : Option Nat} (h : But bb w w1) (hg : w1.grownBy w2 row) (hr : ∀ k, row = some k → w.heap.size ≤ k) : But bb w w2 :=
  ⟨hg.os.trans h.os, hg.tape.trans h.tape, hg.output.trans h.output, Nat.le_trans h.size hg.size, fun k hk hne => (hg.block k (Nat.lt_of_lt_of_le hk h.size) (fun e => by have := hr k e.symm; omega)).trans (h.block k hk hne)⟩
theorem Bst.grow {N bb m : Nat} {l : List Int} {w1 w2 : World} {row : Option Nat} (h : Bst N bb m l w1) (hg : w1.grownBy w2 row) (hr : ∀ k, row = some k → m ≤ k) : Bst N bb m l w2 :=
  h.keep hg.size fun k hk => hg.block k (Nat.lt_of_lt_of_le hk h.sz) (fun e => by have := hr k e.symm; omega)
theorem Mid.grow {S : Nat → Prop} {w1 w2 : World} {row : Option Nat} (hg : w1.grownBy w2 row) (hS : ∀ k, S k → k < w1.heap.size ∧ row ≠ some k) : Mid S w1 w2 :=
  fun k hk => hg.block k (hS k hk).1 (fun e => (hS k hk).2 e.symm)

def LPost (N bb m : Nat) (r : List Ast × List Int) (w : World) (e : Ending) (w' : World) : Prop :=
  ∃ v, e = .returned v ∧ AtS (In w.heap.size w'.heap.size) w' r.1 v ∧ Bst N bb m r.2 w' ∧ But bb w w'

/-- The relation of the loop: i elements are built. -/
def ExRel (et : TypeId) (N bb m : Nat) (F : Nat → List Int → List Ast × List Int) (n : Nat) (l : List Int) (w : World) (v c : Value) (wr : World) : Prop :=
  ∃ (i : Nat) (li : List Int) (xs : List Ast) (vs : List Value), i ≤ n ∧ c = .int .i64 i ∧ F 0 l = (xs ++ (F i li).1, (F i li).2) ∧
    wr.ownsRow w.heap.size et 1 v i vs ∧ Els (Av w.heap.size wr.heap.size v.ownBlock) wr xs vs ∧ Bst N bb m li wr ∧ But bb w wr

theorem ExRel.snoc {et : TypeId} {N bb m : Nat} {F : Nat → List Int → List Ast × List Int} {n : Nat} {l li l2 : List Int} {w wr w2 wb w4 : World} {v c va : Value} {i lo g cap4 : Nat} {xs : List Ast} {vs : List Value} {a : Ast}
    (hbb : bb < w.heap.size) (hmw : m ≤ w.heap.size) (hi : i < n) (hc : c = .int .i64 ((i + 1 : Nat) : Int)) (hF : F 0 l = (xs ++ (F i li).1, (F i li).2)) (hstep : F i li = (a :: (F (i + 1) l2).1, (F (i + 1) l2).2))
    (hown : wr.ownsRow w.heap.size et 1 v i vs) (hels : Els (Av w.heap.size wr.heap.size v.ownBlock) wr xs vs) (hbr : But bb w wr)
    (hbX : But bb wr wb) (hlo : wr.heap.size ≤ lo) (ha : At (In lo w2.heap.size) w2 a va) (hm2 : MidI lo w2.heap.size w2 wb) (hw2 : w2.heap.size ≤ wb.heap.size) (hs : Bst N bb m l2 wb)
    (hown4 : w4.ownsRow w.heap.size et 1 (.slice (some ⟨g, 0, none⟩) (i + 1) cap4) (i + 1) (vs ++ [va])) (hgrow : wb.grownBy w4 v.ownBlock) (hat : v.ownBlock = some g ∨ g = wb.heap.size) :
    ExRel et N bb m F n l w (.slice (some ⟨g, 0, none⟩) (i + 1) cap4) c w4 := by
  have hlt := hown.lt
  have h1 := hbr.le
  have h2 := hbX.le
  have h3 := hgrow.size
  have hg : ∀ k, v.ownBlock ≠ some k → k < wb.heap.size → (Value.slice (some ⟨g, 0, none⟩) (i + 1) cap4).ownBlock ≠ some k := by
    intro k hk hkl e
    have e : g = k := by simpa [Value.ownBlock] using e
    subst e
    rcases hat with h | h
    · exact hk h
    · omega
  refine ⟨i + 1, l2, xs ++ [a], vs ++ [va], hi, hc, ?_, hown4, ?_, hs.grow hgrow (fun k hk => Nat.le_trans hmw (hlt k hk).1), (hbr.trans hbX).grow hgrow (fun k hk => (hlt k hk).1)⟩
  · rw [hF, hstep]; simp
  · refine Els.snoc (hels.stay (fun k hk => ⟨hk.1, by have := hk.2.1; omega, hg k hk.2.2 (by have := hk.2.1; omega)⟩) fun k hk => ?_) (ha.stay (fun k hk => ⟨by have := hk.1; omega, by have := hk.2; omega, hg k (fun e => ?_) (by have := hk.2; omega)⟩) fun k hk => ?_)
    · refine (hgrow.block k (by have := hk.2.1; omega) (fun e => hk.2.2 e.symm)).trans (hbX.block k hk.2.1 (fun e => ?_))
      injection e with e
      have := hk.1
      omega
    · refine (hgrow.block k (by have := hk.2; omega) (fun e => ?_)).trans (hm2 k hk)
      have := (hlt k e.symm).2
      have := hk.1
      omega
    · have := (hlt k e).2
      have := hk.1
      omega

theorem info_expr : (Tryz.prog.info? 80).map (fun i => (i.zero, i.size, i.bytes)) = some (some .nilIface, 1, 16) := by kernel_rfl
theorem under_exprs : Tryz.prog.underlying 102 = some (.slice 80) := by kernel_rfl

set_option maxRecDepth 100000 in
set_option maxHeartbeats 2000000 in
theorem exprs_b (ks : List Nd) (hks : ∀ k, k ∈ ks → ExprOK k) (hlen : ks.length ≤ 400) (kv : Value) (w : World) (N bb m : Nat) (l : List Int) (hn : SlK N w ks kv) (hs0 : Bst N bb m l w) :
    Calls Tryz.prog 72 #[.pointer (some ⟨bb, 0, none⟩), kv] w (LPost N bb m (bEs true ks l) w) := by
  have hN1 := hs0.hN
  have hN2 := hs0.hb
  have hN3 := hs0.hm
  have z0 := hs0.sz
  have HK := hide hks
  clear hks
  obtain ⟨i0, hi, hz0, hz1, hz2⟩ := info_parts info_expr
  rcases hn with ⟨⟨oa, oc, rfl, hoc⟩, rfl⟩ | ⟨b, o, cap, rfl, hc, hm, hr⟩
  · go_enter Tryz.func72, Tryz.ntmps72
    go_wp2_with fail
    refine wp_loop_rounds 1 ?_
    rw [rounds_succ]
    go_wp2_with fail
    go_ret
    exact ⟨_, rfl, .inl ⟨rfl, rfl⟩, hs0, But.refl _ _⟩
  · unfold maxLen at hm
    have HR := hide hr
    clear hr
    go_enter Tryz.func72, Tryz.ntmps72
    go_wp2_with fail
    go_loopw [5, 10] (fun v c wr => ExRel 80 N bb m (fun i li => bEs (decide (i = 0)) (ks.drop i) li) ks.length l w v c wr) (fun _ c _ => ks.length - (intOf c).toNat)
    case atStart => exact ⟨0, l, [], [], Nat.zero_le _, rfl, by simp, World.ownsRow_nil _ _ _ _, ⟨rfl, fun j a u h => by simp at h⟩, hs0, But.refl _ _⟩
    case round =>
      obtain ⟨i, li, xs, vs, hin, rfl, hF, hown, hels, hsr, hbr⟩ := hrel
      by_cases hlt : i < ks.length
      · obtain ⟨x, hx⟩ : ∃ x, ks[i]? = some x := ⟨ks[i], by simp⟩
        obtain ⟨xv, hbn, c0, c1, c2, hkn⟩ := HR.out.get hx
        obtain ⟨xa, xcap, hxv, -, -⟩ := hkn.slice
        subst hxv
        have hzr := hbr.le
        have s0 := (hbr.at (b := b) (by omega) (by omega) (o + 3 * i)).trans c0
        have s1 := (hbr.at (b := b) (by omega) (by omega) (o + 3 * i + 1)).trans c1
        have s2 := (hbr.at (b := b) (by omega) (by omega) (o + 3 * i + 2)).trans c2
        rw [Nat.mul_comm] at s0 s1 s2
        have hxw : NdK N wr x (.slice xa x.kids.length xcap) := NdK.stay (Nat.le_refl _) (But.same (lb := bb) hbr (by omega) hN2) _ _ hkn
        have HX := hide (HK.out x (List.mem_of_getElem? hx))
        have hdrop : ks.drop i = x :: ks.drop (i + 1) := by
          rw [List.drop_eq_getElem_cons hlt]
          rw [List.getElem?_eq_getElem hlt] at hx
          injection hx with hx
          rw [hx]
        have HD := hide hdrop
        have HF := hide hF
        have HO := hide hown
        have HE := hide hels
        clear hdrop hF hown hels c0 c1 c2 hkn hx
        by_cases hz : i = 0
        · subst hz
          simp only [Nat.zero_mul, Nat.add_zero] at s0 s1 s2
          go_wp2_with fail
          refine (HX.out _ _ N bb m _ (NdK.stay (Nat.le_refl _) (But.same (lb := bb) (by repeat (first | with_reducible exact But.refl _ _ | with_reducible refine But.alloc ?_ _ | (with_reducible refine But.set1 ?_ ?_ _ _; rotate_left; (first | omega | (simp only [World.size_alloc, World.size_setCell, size_drewN, World.size_drew] <;> omega))) | with_reducible refine But.drew ?_ | with_reducible refine But.drewN ?_ _ | with_reducible refine But.trans ?_ (by assumption))) (by (first | omega | (simp only [World.size_alloc, World.size_setCell, size_drewN, World.size_drew] <;> omega))) (by (first | omega | (simp only [World.size_alloc, World.size_setCell, size_drewN, World.size_drew] <;> omega)))) _ _ hxw) (by repeat (first | with_reducible assumption | with_reducible apply Bst.alloc | with_reducible apply Bst.drew | with_reducible apply Bst.drewN | (with_reducible apply Bst.set1; rotate_left; (first | omega | (simp only [World.size_alloc, World.size_setCell, size_drewN, World.size_drew] <;> omega)))))).mono ?_
          rintro e w2 ⟨v2, rfl, ha2, hs2, hb2⟩
          obtain ⟨p2, rfl, hp2⟩ := ha2.ptr
          have z2 := hb2.le
          try simp only [World.size_alloc, World.size_setCell, size_drewN, World.size_drew] at z2
          obtain ⟨c2_0, f2_0, l2_0, n2_0, m2_0⟩ := hb2.facts (b := wr.heap.size) (by (first | omega | (simp only [World.size_alloc, World.size_setCell, size_drewN, World.size_drew] <;> omega))) (by (first | omega | (simp only [World.size_alloc, World.size_setCell, size_drewN, World.size_drew] <;> omega)))
          go_wp2_with (first
            | (at_builtin
               have hbX : But bb wr (w2.alloc (.cells #[.iface (bE x li).1.ptype (.pointer (some ⟨p2, 0, none⟩))] 80)) := (by repeat (first | with_reducible exact But.refl _ _ | with_reducible refine But.alloc ?_ _ | (with_reducible refine But.set1 ?_ ?_ _ _; rotate_left; (first | omega | (simp only [World.size_alloc, World.size_setCell, size_drewN, World.size_drew] <;> omega))) | with_reducible refine But.drew ?_ | with_reducible refine But.drewN ?_ _ | with_reducible refine But.trans ?_ (by assumption)))
               refine wpList_append_lies _ rfl _ _ 102 rfl w.heap.size 80 i0 .nilIface 1 16 under_exprs hi hz0 hz1 hz2 rfl (by decide) _ _ _ rfl (HO.out.kept hbX (Or.inr (fun e => by have := HO.out.lt bb e; omega))) ⟨w2.heap.size, 0, none⟩ 1 1 [.iface (bE x li).1.ptype (.pointer (some ⟨p2, 0, none⟩))] rfl rfl (cell_one_new _ _ _) (fun u hu => by simp at hu; subst hu; rfl) (by decide) (by unfold maxLen; omega) (by omega) (by (first | omega | (simp only [World.size_alloc, World.size_setCell, size_drewN, World.size_drew] <;> omega))) _ rfl ?_
               intro g cap4 w4 hown4 hgrow4 hat4 hlt4))
          have HG := hide (show _ ∧ _ ∧ _ from ⟨hown4, hgrow4, hat4⟩)
          clear hown4 hgrow4 hat4
          go_wp2_with fail
          go_roundw
          case rel =>
            obtain ⟨hown4, hgrow4, hat4⟩ := HG.out
            exact ExRel.snoc (l2 := (bE x li).2) (by omega) z0 hlt (by go_num) HF.out (by simp only [HD.out]; simp [bEs]) HO.out HE.out hbr hbX (by (first | omega | (simp only [World.size_alloc, World.size_setCell, size_drewN, World.size_drew] <;> omega))) ha2 (by repeat (first | with_reducible exact MidI.refl _ _ _ | (with_reducible refine MidI.alloc ?_ ?_ _; rotate_left; (first | omega | (simp only [World.size_alloc, World.size_setCell, size_drewN, World.size_drew] <;> omega))) | (with_reducible refine MidI.set1 ?_ ?_ _ _; rotate_left; (first | omega | (simp only [World.size_alloc, World.size_setCell, size_drewN, World.size_drew] <;> omega))) | with_reducible refine MidI.drew ?_ | with_reducible refine MidI.drewN ?_ _ | (with_reducible refine MidI.but ?_ (by assumption) ?_ ?_; rotate_left; (first | omega | (simp only [World.size_alloc, World.size_setCell, size_drewN, World.size_drew] <;> omega)); (first | omega | (simp only [World.size_alloc, World.size_setCell, size_drewN, World.size_drew] <;> omega))))) (by (first | omega | (simp only [World.size_alloc, World.size_setCell, size_drewN, World.size_drew] <;> omega))) (by repeat (first | with_reducible assumption | with_reducible apply Bst.alloc | with_reducible apply Bst.drew | with_reducible apply Bst.drewN | (with_reducible apply Bst.set1; rotate_left; (first | omega | (simp only [World.size_alloc, World.size_setCell, size_drewN, World.size_drew] <;> omega))))) hown4 hgrow4 hat4
          case measure => simp [intOf]; omega
        · have hq : decide ((0 : Int) < (i : Int)) = true := decide_eq_true (by omega)
          go_wp2_with fail
          refine (next_any (N := N) (m := m) (by repeat (first | with_reducible assumption | with_reducible apply Bst.alloc | with_reducible apply Bst.drew | with_reducible apply Bst.drewN | (with_reducible apply Bst.set1; rotate_left; (first | omega | (simp only [World.size_alloc, World.size_setCell, size_drewN, World.size_drew] <;> omega)))))).mono ?_
          rintro e w1 ⟨rfl, hs1, hb1⟩
          have z1 := hb1.le
          try simp only [World.size_alloc, World.size_setCell, size_drewN, World.size_drew] at z1
          obtain ⟨c1_0, f1_0, l1_0, n1_0, m1_0⟩ := hb1.facts (b := wr.heap.size) (by (first | omega | (simp only [World.size_alloc, World.size_setCell, size_drewN, World.size_drew] <;> omega))) (by (first | omega | (simp only [World.size_alloc, World.size_setCell, size_drewN, World.size_drew] <;> omega)))
          go_wp2_with fail
          refine (HX.out _ _ N bb m _ (NdK.stay (Nat.le_refl _) (But.same (lb := bb) (by repeat (first | with_reducible exact But.refl _ _ | with_reducible refine But.alloc ?_ _ | (with_reducible refine But.set1 ?_ ?_ _ _; rotate_left; (first | omega | (simp only [World.size_alloc, World.size_setCell, size_drewN, World.size_drew] <;> omega))) | with_reducible refine But.drew ?_ | with_reducible refine But.drewN ?_ _ | with_reducible refine But.trans ?_ (by assumption))) (by (first | omega | (simp only [World.size_alloc, World.size_setCell, size_drewN, World.size_drew] <;> omega))) (by (first | omega | (simp only [World.size_alloc, World.size_setCell, size_drewN, World.size_drew] <;> omega)))) _ _ hxw) (by repeat (first | with_reducible assumption | with_reducible apply Bst.alloc | with_reducible apply Bst.drew | with_reducible apply Bst.drewN | (with_reducible apply Bst.set1; rotate_left; (first | omega | (simp only [World.size_alloc, World.size_setCell, size_drewN, World.size_drew] <;> omega)))))).mono ?_
          rintro e w2 ⟨v2, rfl, ha2, hs2, hb2⟩
          obtain ⟨p2, rfl, hp2⟩ := ha2.ptr
          have z2 := hb2.le
          try simp only [World.size_alloc, World.size_setCell, size_drewN, World.size_drew] at z2
          obtain ⟨c2_0, f2_0, l2_0, n2_0, m2_0⟩ := hb2.facts (b := wr.heap.size) (by (first | omega | (simp only [World.size_alloc, World.size_setCell, size_drewN, World.size_drew] <;> omega))) (by (first | omega | (simp only [World.size_alloc, World.size_setCell, size_drewN, World.size_drew] <;> omega)))
          go_wp2_with (first
            | (at_builtin
               have hbX : But bb wr (w2.alloc (.cells #[.iface (bE x li.tail).1.ptype (.pointer (some ⟨p2, 0, none⟩))] 80)) := (by repeat (first | with_reducible exact But.refl _ _ | with_reducible refine But.alloc ?_ _ | (with_reducible refine But.set1 ?_ ?_ _ _; rotate_left; (first | omega | (simp only [World.size_alloc, World.size_setCell, size_drewN, World.size_drew] <;> omega))) | with_reducible refine But.drew ?_ | with_reducible refine But.drewN ?_ _ | with_reducible refine But.trans ?_ (by assumption)))
               refine wpList_append_lies _ rfl _ _ 102 rfl w.heap.size 80 i0 .nilIface 1 16 under_exprs hi hz0 hz1 hz2 rfl (by decide) _ _ _ rfl (HO.out.kept hbX (Or.inr (fun e => by have := HO.out.lt bb e; omega))) ⟨w2.heap.size, 0, none⟩ 1 1 [.iface (bE x li.tail).1.ptype (.pointer (some ⟨p2, 0, none⟩))] rfl rfl (cell_one_new _ _ _) (fun u hu => by simp at hu; subst hu; rfl) (by decide) (by unfold maxLen; omega) (by omega) (by (first | omega | (simp only [World.size_alloc, World.size_setCell, size_drewN, World.size_drew] <;> omega))) _ rfl ?_
               intro g cap4 w4 hown4 hgrow4 hat4 hlt4))
          have HG := hide (show _ ∧ _ ∧ _ from ⟨hown4, hgrow4, hat4⟩)
          clear hown4 hgrow4 hat4
          go_wp2_with fail
          go_roundw
          case rel =>
            obtain ⟨hown4, hgrow4, hat4⟩ := HG.out
            exact ExRel.snoc (l2 := (bE x li.tail).2) (by omega) z0 hlt (by go_num) HF.out (by simp only [HD.out]; simp [bEs, hz]) HO.out HE.out hbr hbX (by (first | omega | (simp only [World.size_alloc, World.size_setCell, size_drewN, World.size_drew] <;> omega))) ha2 (by repeat (first | with_reducible exact MidI.refl _ _ _ | (with_reducible refine MidI.alloc ?_ ?_ _; rotate_left; (first | omega | (simp only [World.size_alloc, World.size_setCell, size_drewN, World.size_drew] <;> omega))) | (with_reducible refine MidI.set1 ?_ ?_ _ _; rotate_left; (first | omega | (simp only [World.size_alloc, World.size_setCell, size_drewN, World.size_drew] <;> omega))) | with_reducible refine MidI.drew ?_ | with_reducible refine MidI.drewN ?_ _ | (with_reducible refine MidI.but ?_ (by assumption) ?_ ?_; rotate_left; (first | omega | (simp only [World.size_alloc, World.size_setCell, size_drewN, World.size_drew] <;> omega)); (first | omega | (simp only [World.size_alloc, World.size_setCell, size_drewN, World.size_drew] <;> omega))))) (by (first | omega | (simp only [World.size_alloc, World.size_setCell, size_drewN, World.size_drew] <;> omega))) (by repeat (first | with_reducible assumption | with_reducible apply Bst.alloc | with_reducible apply Bst.drew | with_reducible apply Bst.drewN | (with_reducible apply Bst.set1; rotate_left; (first | omega | (simp only [World.size_alloc, World.size_setCell, size_drewN, World.size_drew] <;> omega))))) hown4 hgrow4 hat4
          case measure => simp [intOf]; omega
      · have hie : i = ks.length := by omega
        subst hie
        go_wp2_with fail
        go_ret
        refine ⟨_, rfl, ?_, ?_, hbr⟩
        · simp only [List.drop_length, bEs, List.append_nil] at hF
          simp only [decide_true, List.drop_zero] at hF
          rw [hF]
          refine atS_of hown (hels.stay (fun k hk => ⟨hk.1, hk.2.1⟩) (Mid.refl _ _)) fun g hg => ⟨(hown.lt g hg).1, (hown.lt g hg).2⟩
        · simp only [List.drop_length, bEs, List.append_nil] at hF
          simp only [decide_true, List.drop_zero] at hF
          rw [hF]
          exact hsr
end Go.Proofs.YtkkgfgllfbahlaaGreatFmt

namespace Go.Proofs.YtkkgfgllfbahlaaGreatFmt
open Go Go.RowKit
set_option linter.unusedSimpArgs false

theorem rest_b {N bb m : Nat} {l : List Int} {w : World} (hs0 : Bst N bb m l w) {n : Nd} {kv : Value} (hn : NdK N w n kv) :
    Calls Tryz.prog 87 #[nodeV n kv] w fun e w' => ∃ sv, e = .returned sv ∧ SlK N w' n.kids.tail sv ∧ Bst N bb m l w' ∧ But bb w w' := by
  have hN2 := hs0.hb
  have hN3 := hs0.hm
  have z0 := hs0.sz
  obtain ⟨k, t, ks⟩ := n
  unfold nodeV
  simp only [Nd.kids_mk, Nd.kind_mk, Nd.text_mk]
  have hsl := NdK_iff.1 hn
  simp only [Nd.kids_mk] at hsl
  clear hn
  rcases hsl with ⟨⟨oa, oc, rfl, hoc⟩, rfl⟩ | ⟨b, o, cap, rfl, hc, hm, hr⟩
  · go_enter Tryz.func87, Tryz.ntmps87
    go_wp2_with fail
    go_ret
    exact ⟨_, rfl, .inl ⟨⟨none, 0, rfl, by decide⟩, rfl⟩, (by repeat (first | with_reducible assumption | with_reducible apply Bst.alloc | with_reducible apply Bst.drew | with_reducible apply Bst.drewN | (with_reducible apply Bst.set1; rotate_left; (first | omega | (simp only [World.size_alloc, World.size_setCell, size_drewN, World.size_drew] <;> omega))))), (by repeat (first | with_reducible exact But.refl _ _ | with_reducible refine But.alloc ?_ _ | (with_reducible refine But.set1 ?_ ?_ _ _; rotate_left; (first | omega | (simp only [World.size_alloc, World.size_setCell, size_drewN, World.size_drew] <;> omega))) | with_reducible refine But.drew ?_ | with_reducible refine But.drewN ?_ _ | with_reducible refine But.trans ?_ (by assumption)))⟩
  · cases ks with
    | nil =>
      simp only [List.length_nil]
      go_enter Tryz.func87, Tryz.ntmps87
      go_wp2_with fail
      go_ret
      exact ⟨_, rfl, .inl ⟨⟨none, 0, rfl, by decide⟩, rfl⟩, (by repeat (first | with_reducible assumption | with_reducible apply Bst.alloc | with_reducible apply Bst.drew | with_reducible apply Bst.drewN | (with_reducible apply Bst.set1; rotate_left; (first | omega | (simp only [World.size_alloc, World.size_setCell, size_drewN, World.size_drew] <;> omega))))), (by repeat (first | with_reducible exact But.refl _ _ | with_reducible refine But.alloc ?_ _ | (with_reducible refine But.set1 ?_ ?_ _ _; rotate_left; (first | omega | (simp only [World.size_alloc, World.size_setCell, size_drewN, World.size_drew] <;> omega))) | with_reducible refine But.drew ?_ | with_reducible refine But.drewN ?_ _ | with_reducible refine But.trans ?_ (by assumption)))⟩
    | cons x ks =>
      unfold maxLen at hm
      have HR := hide hr
      clear hr
      simp only [List.length_cons] at hc ⊢
      go_enter Tryz.func87, Tryz.ntmps87
      go_wp2_with fail
      all_goals go_ret
      · rename_i hc1
        obtain rfl : ks = [] := by cases ks with | nil => rfl | cons => simp at hc; omega
        exact ⟨_, rfl, .inr ⟨b, o, 0, rfl, by simp, by unfold maxLen; omega, by simp [RowK]⟩, (by repeat (first | with_reducible assumption | with_reducible apply Bst.alloc | with_reducible apply Bst.drew | with_reducible apply Bst.drewN | (with_reducible apply Bst.set1; rotate_left; (first | omega | (simp only [World.size_alloc, World.size_setCell, size_drewN, World.size_drew] <;> omega))))), (by repeat (first | with_reducible exact But.refl _ _ | with_reducible refine But.alloc ?_ _ | (with_reducible refine But.set1 ?_ ?_ _ _; rotate_left; (first | omega | (simp only [World.size_alloc, World.size_setCell, size_drewN, World.size_drew] <;> omega))) | with_reducible refine But.drew ?_ | with_reducible refine But.drewN ?_ _ | with_reducible refine But.trans ?_ (by assumption)))⟩
      · refine ⟨_, rfl, .inr ⟨b, o + 3, cap - 1, rfl, ?_, by unfold maxLen; omega, ?_⟩, (by repeat (first | with_reducible assumption | with_reducible apply Bst.alloc | with_reducible apply Bst.drew | with_reducible apply Bst.drewN | (with_reducible apply Bst.set1; rotate_left; (first | omega | (simp only [World.size_alloc, World.size_setCell, size_drewN, World.size_drew] <;> omega))))), (by repeat (first | with_reducible exact But.refl _ _ | with_reducible refine But.alloc ?_ _ | (with_reducible refine But.set1 ?_ ?_ _ _; rotate_left; (first | omega | (simp only [World.size_alloc, World.size_setCell, size_drewN, World.size_drew] <;> omega))) | with_reducible refine But.drew ?_ | with_reducible refine But.drewN ?_ _ | with_reducible refine But.trans ?_ (by assumption)))⟩
        · show ks.length ≤ cap - 1
          omega
        · have := (HR.out.drop 1)
          simp only [List.drop_succ_cons, List.drop_zero] at this
          exact this.stay (Nat.le_refl _) (But.same (lb := bb) (by repeat (first | with_reducible exact But.refl _ _ | with_reducible refine But.alloc ?_ _ | (with_reducible refine But.set1 ?_ ?_ _ _; rotate_left; (first | omega | (simp only [World.size_alloc, World.size_setCell, size_drewN, World.size_drew] <;> omega))) | with_reducible refine But.drew ?_ | with_reducible refine But.drewN ?_ _ | with_reducible refine But.trans ?_ (by assumption))) (by (first | omega | (simp only [World.size_alloc, World.size_setCell, size_drewN, World.size_drew] <;> omega))) (by (first | omega | (simp only [World.size_alloc, World.size_setCell, size_drewN, World.size_drew] <;> omega)))) _ _ _

set_option maxRecDepth 100000 in
set_option maxHeartbeats 2000000 in
theorem call_b (n x : Nd) (r : List Nd) (hk : n.kids = x :: r) (hx : ExprOK x) (hr : ∀ k, k ∈ r → ExprOK k) (hlen : r.length ≤ 400) (kv : Value) (w : World) (N bb m : Nat) (l : List Int) (hn : NdK N w n kv) (hs0 : Bst N bb m l w) :
    Calls Tryz.prog 73 #[.pointer (some ⟨bb, 0, none⟩), .agg #[.string n.kind, .string n.text, kv]] w (PPost 124 N bb m (mkCall (bE x l) (bEs true r (bE x l).2.tail)) w) := by
  have Hx := hide hx
  have HR := hide hr
  clear hx hr
  obtain ⟨k, t, ks⟩ := n
  simp only [Nd.kids_mk] at hk
  subst hk
  obtain ⟨a, cap, hv, -, -⟩ := hn.slice
  subst hv
  have hN1 := hs0.hN
  have hN2 := hs0.hb
  have hN3 := hs0.hm
  have z0 := hs0.sz
  simp only [Nd.kids_mk, Nd.kind_mk, Nd.text_mk, List.length_cons, List.length_nil] at hn ⊢
  go_enter Tryz.func73, Tryz.ntmps73
  go_wp2_with fail
  refine (kid_b (N := N) (m := m) (by repeat (first | with_reducible assumption | with_reducible apply Bst.alloc | with_reducible apply Bst.drew | with_reducible apply Bst.drewN | (with_reducible apply Bst.set1; rotate_left; (first | omega | (simp only [World.size_alloc, World.size_setCell, size_drewN, World.size_drew] <;> omega))))) (NdK.stay (Nat.le_refl _) (But.same (lb := bb) (by repeat (first | with_reducible exact But.refl _ _ | with_reducible refine But.alloc ?_ _ | (with_reducible refine But.set1 ?_ ?_ _ _; rotate_left; (first | omega | (simp only [World.size_alloc, World.size_setCell, size_drewN, World.size_drew] <;> omega))) | with_reducible refine But.drew ?_ | with_reducible refine But.drewN ?_ _ | with_reducible refine But.trans ?_ (by assumption))) (by (first | omega | (simp only [World.size_alloc, World.size_setCell, size_drewN, World.size_drew] <;> omega))) (by (first | omega | (simp only [World.size_alloc, World.size_setCell, size_drewN, World.size_drew] <;> omega)))) _ _ hn) 0 x rfl).mono ?_
  rintro e w1 ⟨kv1, rfl, hk1, hs1, hb1⟩
  have z1 := hb1.le
  try simp only [World.size_alloc, World.size_setCell, size_drewN, World.size_drew] at z1
  obtain ⟨c1_0, f1_0, l1_0, n1_0, m1_0⟩ := hb1.facts (b := w.heap.size) (by (first | omega | (simp only [World.size_alloc, World.size_setCell, size_drewN, World.size_drew] <;> omega))) (by (first | omega | (simp only [World.size_alloc, World.size_setCell, size_drewN, World.size_drew] <;> omega)))
  go_wp2_with fail
  refine (Hx.out _ _ N bb m _ hk1 (by repeat (first | with_reducible assumption | with_reducible apply Bst.alloc | with_reducible apply Bst.drew | with_reducible apply Bst.drewN | (with_reducible apply Bst.set1; rotate_left; (first | omega | (simp only [World.size_alloc, World.size_setCell, size_drewN, World.size_drew] <;> omega)))))).mono ?_
  rintro e w2 ⟨v2, rfl, ha2, hs2, hb2⟩
  obtain ⟨p2, rfl, hp2⟩ := ha2.ptr
  have z2 := hb2.le
  try simp only [World.size_alloc, World.size_setCell, size_drewN, World.size_drew] at z2
  obtain ⟨c2_0, f2_0, l2_0, n2_0, m2_0⟩ := hb2.facts (b := w.heap.size) (by (first | omega | (simp only [World.size_alloc, World.size_setCell, size_drewN, World.size_drew] <;> omega))) (by (first | omega | (simp only [World.size_alloc, World.size_setCell, size_drewN, World.size_drew] <;> omega)))
  go_wp2_with fail
  refine (next_any (N := N) (m := m) (by repeat (first | with_reducible assumption | with_reducible apply Bst.alloc | with_reducible apply Bst.drew | with_reducible apply Bst.drewN | (with_reducible apply Bst.set1; rotate_left; (first | omega | (simp only [World.size_alloc, World.size_setCell, size_drewN, World.size_drew] <;> omega)))))).mono ?_
  rintro e w3 ⟨rfl, hs3, hb3⟩
  have z3 := hb3.le
  try simp only [World.size_alloc, World.size_setCell, size_drewN, World.size_drew] at z3
  obtain ⟨c3_0, f3_0, l3_0, n3_0, m3_0⟩ := hb3.facts (b := w.heap.size) (by (first | omega | (simp only [World.size_alloc, World.size_setCell, size_drewN, World.size_drew] <;> omega))) (by (first | omega | (simp only [World.size_alloc, World.size_setCell, size_drewN, World.size_drew] <;> omega)))
  go_wp2_with fail
  refine (rest_b (N := N) (m := m) (by repeat (first | with_reducible assumption | with_reducible apply Bst.alloc | with_reducible apply Bst.drew | with_reducible apply Bst.drewN | (with_reducible apply Bst.set1; rotate_left; (first | omega | (simp only [World.size_alloc, World.size_setCell, size_drewN, World.size_drew] <;> omega))))) (NdK.stay (Nat.le_refl _) (But.same (lb := bb) (by repeat (first | with_reducible exact But.refl _ _ | with_reducible refine But.alloc ?_ _ | (with_reducible refine But.set1 ?_ ?_ _ _; rotate_left; (first | omega | (simp only [World.size_alloc, World.size_setCell, size_drewN, World.size_drew] <;> omega))) | with_reducible refine But.drew ?_ | with_reducible refine But.drewN ?_ _ | with_reducible refine But.trans ?_ (by assumption))) (by (first | omega | (simp only [World.size_alloc, World.size_setCell, size_drewN, World.size_drew] <;> omega))) (by (first | omega | (simp only [World.size_alloc, World.size_setCell, size_drewN, World.size_drew] <;> omega)))) _ _ hn)).mono ?_
  rintro e w4 ⟨sv, rfl, hk4, hs4, hb4⟩
  have z4 := hb4.le
  simp only [World.size_alloc] at z4
  have z4 := hb4.le
  try simp only [World.size_alloc, World.size_setCell, size_drewN, World.size_drew] at z4
  obtain ⟨c4_0, f4_0, l4_0, n4_0, m4_0⟩ := hb4.facts (b := w.heap.size) (by (first | omega | (simp only [World.size_alloc, World.size_setCell, size_drewN, World.size_drew] <;> omega))) (by (first | omega | (simp only [World.size_alloc, World.size_setCell, size_drewN, World.size_drew] <;> omega)))
  obtain ⟨c4_1, f4_1, l4_1, n4_1, m4_1⟩ := hb4.facts (b := w3.heap.size) (by (first | omega | (simp only [World.size_alloc, World.size_setCell, size_drewN, World.size_drew] <;> omega))) (by (first | omega | (simp only [World.size_alloc, World.size_setCell, size_drewN, World.size_drew] <;> omega)))
  go_wp2_with fail
  refine (exprs_b r HR.out hlen _ _ N bb m _ hk4 (by repeat (first | with_reducible assumption | with_reducible apply Bst.alloc | with_reducible apply Bst.drew | with_reducible apply Bst.drewN | (with_reducible apply Bst.set1; rotate_left; (first | omega | (simp only [World.size_alloc, World.size_setCell, size_drewN, World.size_drew] <;> omega)))))).mono ?_
  rintro e w5 ⟨av, rfl, ha5, hs5, hb5⟩
  have z5 := hb5.le
  try simp only [World.size_alloc, World.size_setCell, size_drewN, World.size_drew] at z5
  obtain ⟨c5_0, f5_0, l5_0, n5_0, m5_0⟩ := hb5.facts (b := w.heap.size) (by (first | omega | (simp only [World.size_alloc, World.size_setCell, size_drewN, World.size_drew] <;> omega))) (by (first | omega | (simp only [World.size_alloc, World.size_setCell, size_drewN, World.size_drew] <;> omega)))
  obtain ⟨c5_1, f5_1, l5_1, n5_1, m5_1⟩ := hb5.facts (b := w3.heap.size) (by (first | omega | (simp only [World.size_alloc, World.size_setCell, size_drewN, World.size_drew] <;> omega))) (by (first | omega | (simp only [World.size_alloc, World.size_setCell, size_drewN, World.size_drew] <;> omega)))
  obtain ⟨sb, slen, scap, rfl⟩ := ha5.slice
  go_wp2_with fail
  refine (next_any (N := N) (m := m) (by repeat (first | with_reducible assumption | with_reducible apply Bst.alloc | with_reducible apply Bst.drew | with_reducible apply Bst.drewN | (with_reducible apply Bst.set1; rotate_left; (first | omega | (simp only [World.size_alloc, World.size_setCell, size_drewN, World.size_drew] <;> omega)))))).mono ?_
  rintro e w6 ⟨rfl, hs6, hb6⟩
  have z6 := hb6.le
  try simp only [World.size_alloc, World.size_setCell, size_drewN, World.size_drew] at z6
  obtain ⟨c6_0, f6_0, l6_0, n6_0, m6_0⟩ := hb6.facts (b := w.heap.size) (by (first | omega | (simp only [World.size_alloc, World.size_setCell, size_drewN, World.size_drew] <;> omega))) (by (first | omega | (simp only [World.size_alloc, World.size_setCell, size_drewN, World.size_drew] <;> omega)))
  obtain ⟨c6_1, f6_1, l6_1, n6_1, m6_1⟩ := hb6.facts (b := w3.heap.size) (by (first | omega | (simp only [World.size_alloc, World.size_setCell, size_drewN, World.size_drew] <;> omega))) (by (first | omega | (simp only [World.size_alloc, World.size_setCell, size_drewN, World.size_drew] <;> omega)))
  go_wp2_with fail
  go_ret
  unfold PPost mkCall
  dsimp only
  refine ⟨_, rfl, ?_, (by repeat (first | with_reducible assumption | with_reducible apply Bst.alloc | with_reducible apply Bst.drew | with_reducible apply Bst.drewN | (with_reducible apply Bst.set1; rotate_left; (first | omega | (simp only [World.size_alloc, World.size_setCell, size_drewN, World.size_drew] <;> omega))))), (by repeat (first | with_reducible exact But.refl _ _ | with_reducible refine But.alloc ?_ _ | (with_reducible refine But.set1 ?_ ?_ _ _; rotate_left; (first | omega | (simp only [World.size_alloc, World.size_setCell, size_drewN, World.size_drew] <;> omega))) | with_reducible refine But.drew ?_ | with_reducible refine But.drewN ?_ _ | with_reducible refine But.trans ?_ (by assumption)))⟩
  exact At_call.2 ⟨w3.heap.size, rfl, ⟨by (first | omega | (simp only [World.size_alloc, World.size_setCell, size_drewN, World.size_drew] <;> omega)), by (first | omega | (simp only [World.size_alloc, World.size_setCell, size_drewN, World.size_drew] <;> omega))⟩, _, _, by go_cell, ha2.wide (by repeat (first | with_reducible exact MidI.refl _ _ _ | (with_reducible refine MidI.alloc ?_ ?_ _; rotate_left; (first | omega | (simp only [World.size_alloc, World.size_setCell, size_drewN, World.size_drew] <;> omega))) | (with_reducible refine MidI.set1 ?_ ?_ _ _; rotate_left; (first | omega | (simp only [World.size_alloc, World.size_setCell, size_drewN, World.size_drew] <;> omega))) | with_reducible refine MidI.drew ?_ | with_reducible refine MidI.drewN ?_ _ | (with_reducible refine MidI.but ?_ (by assumption) ?_ ?_; rotate_left; (first | omega | (simp only [World.size_alloc, World.size_setCell, size_drewN, World.size_drew] <;> omega)); (first | omega | (simp only [World.size_alloc, World.size_setCell, size_drewN, World.size_drew] <;> omega))))) (by (first | omega | (simp only [World.size_alloc, World.size_setCell, size_drewN, World.size_drew] <;> omega))) (by (first | omega | (simp only [World.size_alloc, World.size_setCell, size_drewN, World.size_drew] <;> omega))), by go_cell, by go_cell, ha5.wide (by repeat (first | with_reducible exact MidI.refl _ _ _ | (with_reducible refine MidI.alloc ?_ ?_ _; rotate_left; (first | omega | (simp only [World.size_alloc, World.size_setCell, size_drewN, World.size_drew] <;> omega))) | (with_reducible refine MidI.set1 ?_ ?_ _ _; rotate_left; (first | omega | (simp only [World.size_alloc, World.size_setCell, size_drewN, World.size_drew] <;> omega))) | with_reducible refine MidI.drew ?_ | with_reducible refine MidI.drewN ?_ _ | (with_reducible refine MidI.but ?_ (by assumption) ?_ ?_; rotate_left; (first | omega | (simp only [World.size_alloc, World.size_setCell, size_drewN, World.size_drew] <;> omega)); (first | omega | (simp only [World.size_alloc, World.size_setCell, size_drewN, World.size_drew] <;> omega))))) (by (first | omega | (simp only [World.size_alloc, World.size_setCell, size_drewN, World.size_drew] <;> omega))) (by (first | omega | (simp only [World.size_alloc, World.size_setCell, size_drewN, World.size_drew] <;> omega))), by go_cell, by go_cell⟩

set_option maxRecDepth 100000 in
set_option maxHeartbeats 2000000 in
theorem expr_call (t : ByteArray) (x : Nd) (r : List Nd) (hx : ExprOK x) (hr : ∀ k, k ∈ r → ExprOK k) (hlen : r.length ≤ 400) : ExprOK (.mk ⟨#[99, 97, 108, 108]⟩ t (x :: r)) := by
  intro kv w N bb m l hn hs0
  have HC := hide (call_b (.mk ⟨#[99, 97, 108, 108]⟩ t (x :: r)) x r rfl hx hr hlen)
  clear hx hr
  obtain ⟨a, cap, hv, -, -⟩ := hn.slice
  subst hv
  have hN1 := hs0.hN
  have hN2 := hs0.hb
  have hN3 := hs0.hm
  have z0 := hs0.sz
  have HV := hide (show bE (.mk ⟨#[99, 97, 108, 108]⟩ t (x :: r)) l = mkCall (bE x l) (bEs true r (bE x l).2.tail) by
    match r with
    | [] => simp [bE]
    | [y] => simp [bE]
    | y :: z :: r => simp [bE])
  simp only [Nd.kids_mk, Nd.kind_mk, Nd.text_mk, List.length_cons, List.length_nil] at hn ⊢
  go_enter Tryz.func68, Tryz.ntmps68
  go_wp2_with fail
  refine (HC.out _ _ N bb m l (NdK.stay (Nat.le_refl _) (But.same (lb := bb) (by repeat (first | with_reducible exact But.refl _ _ | with_reducible refine But.alloc ?_ _ | (with_reducible refine But.set1 ?_ ?_ _ _; rotate_left; (first | omega | (simp only [World.size_alloc, World.size_setCell, size_drewN, World.size_drew] <;> omega))) | with_reducible refine But.drew ?_ | with_reducible refine But.drewN ?_ _ | with_reducible refine But.trans ?_ (by assumption))) (by (first | omega | (simp only [World.size_alloc, World.size_setCell, size_drewN, World.size_drew] <;> omega))) (by (first | omega | (simp only [World.size_alloc, World.size_setCell, size_drewN, World.size_drew] <;> omega)))) _ _ hn) (by repeat (first | with_reducible assumption | with_reducible apply Bst.alloc | with_reducible apply Bst.drew | with_reducible apply Bst.drewN | (with_reducible apply Bst.set1; rotate_left; (first | omega | (simp only [World.size_alloc, World.size_setCell, size_drewN, World.size_drew] <;> omega)))))).mono ?_
  rintro e w1 ⟨p1, rfl, ha1, hs1, hb1⟩
  have z1 := hb1.le
  try simp only [World.size_alloc, World.size_setCell, size_drewN, World.size_drew] at z1
  obtain ⟨c1_0, f1_0, l1_0, n1_0, m1_0⟩ := hb1.facts (b := w.heap.size) (by (first | omega | (simp only [World.size_alloc, World.size_setCell, size_drewN, World.size_drew] <;> omega))) (by (first | omega | (simp only [World.size_alloc, World.size_setCell, size_drewN, World.size_drew] <;> omega)))
  go_wp2_with fail
  go_ret
  unfold EPost
  rw [HV.out]
  exact ⟨_, rfl, ha1.wide (by repeat (first | with_reducible exact MidI.refl _ _ _ | (with_reducible refine MidI.alloc ?_ ?_ _; rotate_left; (first | omega | (simp only [World.size_alloc, World.size_setCell, size_drewN, World.size_drew] <;> omega))) | (with_reducible refine MidI.set1 ?_ ?_ _ _; rotate_left; (first | omega | (simp only [World.size_alloc, World.size_setCell, size_drewN, World.size_drew] <;> omega))) | with_reducible refine MidI.drew ?_ | with_reducible refine MidI.drewN ?_ _ | (with_reducible refine MidI.but ?_ (by assumption) ?_ ?_; rotate_left; (first | omega | (simp only [World.size_alloc, World.size_setCell, size_drewN, World.size_drew] <;> omega)); (first | omega | (simp only [World.size_alloc, World.size_setCell, size_drewN, World.size_drew] <;> omega))))) (by (first | omega | (simp only [World.size_alloc, World.size_setCell, size_drewN, World.size_drew] <;> omega))) (by (first | omega | (simp only [World.size_alloc, World.size_setCell, size_drewN, World.size_drew] <;> omega))), (by repeat (first | with_reducible assumption | with_reducible apply Bst.alloc | with_reducible apply Bst.drew | with_reducible apply Bst.drewN | (with_reducible apply Bst.set1; rotate_left; (first | omega | (simp only [World.size_alloc, World.size_setCell, size_drewN, World.size_drew] <;> omega))))), (by repeat (first | with_reducible exact But.refl _ _ | with_reducible refine But.alloc ?_ _ | (with_reducible refine But.set1 ?_ ?_ _ _; rotate_left; (first | omega | (simp only [World.size_alloc, World.size_setCell, size_drewN, World.size_drew] <;> omega))) | with_reducible refine But.drew ?_ | with_reducible refine But.drewN ?_ _ | with_reducible refine But.trans ?_ (by assumption)))⟩

set_option maxRecDepth 100000 in
theorem expr_none_b (n : Nd) (hm : miss n = true) (kv : Value) (w : World) (N bb m : Nat) (l : List Int) (hn : NdK N w n kv) (hs0 : Bst N bb m l w) :
    Calls Tryz.prog 68 #[.pointer (some ⟨bb, 0, none⟩), .agg #[.string n.kind, .string n.text, kv]] w fun e w' => e = .returned .nilIface ∧ Bst N bb m l w' ∧ But bb w w' := by
  obtain ⟨k, t, ks⟩ := n
  have hkk : k = ⟨#[110, 111, 110, 101]⟩ := by
    simp [miss] at hm
    exact ba_eq (of_decide_eq_true hm.1.1)
  subst hkk
  obtain ⟨a, cap, hv, -, -⟩ := hn.slice
  subst hv
  have hN1 := hs0.hN
  have hN2 := hs0.hb
  have hN3 := hs0.hm
  have z0 := hs0.sz
  simp only [Nd.kids_mk, Nd.kind_mk, Nd.text_mk, List.length_cons, List.length_nil] at hn ⊢
  go_enter Tryz.func68, Tryz.ntmps68
  go_wp2_with fail
  go_ret
  exact ⟨rfl, (by repeat (first | with_reducible assumption | with_reducible apply Bst.alloc | with_reducible apply Bst.drew | with_reducible apply Bst.drewN | (with_reducible apply Bst.set1; rotate_left; (first | omega | (simp only [World.size_alloc, World.size_setCell, size_drewN, World.size_drew] <;> omega))))), (by repeat (first | with_reducible exact But.refl _ _ | with_reducible refine But.alloc ?_ _ | (with_reducible refine But.set1 ?_ ?_ _ _; rotate_left; (first | omega | (simp only [World.size_alloc, World.size_setCell, size_drewN, World.size_drew] <;> omega))) | with_reducible refine But.drew ?_ | with_reducible refine But.drewN ?_ _ | with_reducible refine But.trans ?_ (by assumption)))⟩

set_option maxRecDepth 100000 in
set_option maxHeartbeats 2000000 in
theorem expr_assert_none (t : ByteArray) (x : Nd) (y : Nd) (hx : ExprOK x) (hm : miss y = true) : ExprOK (.mk ⟨#[97, 115, 115, 101, 114, 116]⟩ t [x, y]) := by
  intro kv w N bb m l hn hs0
  have Hy := hide (expr_none_b y hm)
  have Hx := hide hx
  clear hx
  obtain ⟨a, cap, hv, -, -⟩ := hn.slice
  subst hv
  have hN1 := hs0.hN
  have hN2 := hs0.hb
  have hN3 := hs0.hm
  have z0 := hs0.sz
  have HV := hide (show bE (.mk ⟨#[97, 115, 115, 101, 114, 116]⟩ t [x, y]) l = mkAsrt (bE x l) none (bE x l).2.tail.tail.tail by simp [bE, hm])
  simp only [Nd.kids_mk, Nd.kind_mk, Nd.text_mk, List.length_cons, List.length_nil] at hn ⊢
  go_enter Tryz.func68, Tryz.ntmps68
  go_wp2_with fail
  refine (kid_b (N := N) (m := m) (by repeat (first | with_reducible assumption | with_reducible apply Bst.alloc | with_reducible apply Bst.drew | with_reducible apply Bst.drewN | (with_reducible apply Bst.set1; rotate_left; (first | omega | (simp only [World.size_alloc, World.size_setCell, size_drewN, World.size_drew] <;> omega))))) (NdK.stay (Nat.le_refl _) (But.same (lb := bb) (by repeat (first | with_reducible exact But.refl _ _ | with_reducible refine But.alloc ?_ _ | (with_reducible refine But.set1 ?_ ?_ _ _; rotate_left; (first | omega | (simp only [World.size_alloc, World.size_setCell, size_drewN, World.size_drew] <;> omega))) | with_reducible refine But.drew ?_ | with_reducible refine But.drewN ?_ _ | with_reducible refine But.trans ?_ (by assumption))) (by (first | omega | (simp only [World.size_alloc, World.size_setCell, size_drewN, World.size_drew] <;> omega))) (by (first | omega | (simp only [World.size_alloc, World.size_setCell, size_drewN, World.size_drew] <;> omega)))) _ _ hn) 0 x rfl).mono ?_
  rintro e w1 ⟨kv1, rfl, hk1, hs1, hb1⟩
  have z1 := hb1.le
  try simp only [World.size_alloc, World.size_setCell, size_drewN, World.size_drew] at z1
  obtain ⟨c1_0, f1_0, l1_0, n1_0, m1_0⟩ := hb1.facts (b := w.heap.size) (by (first | omega | (simp only [World.size_alloc, World.size_setCell, size_drewN, World.size_drew] <;> omega))) (by (first | omega | (simp only [World.size_alloc, World.size_setCell, size_drewN, World.size_drew] <;> omega)))
  go_wp2_with fail
  refine (Hx.out _ _ N bb m _ hk1 (by repeat (first | with_reducible assumption | with_reducible apply Bst.alloc | with_reducible apply Bst.drew | with_reducible apply Bst.drewN | (with_reducible apply Bst.set1; rotate_left; (first | omega | (simp only [World.size_alloc, World.size_setCell, size_drewN, World.size_drew] <;> omega)))))).mono ?_
  rintro e w2 ⟨v2, rfl, ha2, hs2, hb2⟩
  obtain ⟨p2, rfl, hp2⟩ := ha2.ptr
  have z2 := hb2.le
  try simp only [World.size_alloc, World.size_setCell, size_drewN, World.size_drew] at z2
  obtain ⟨c2_0, f2_0, l2_0, n2_0, m2_0⟩ := hb2.facts (b := w.heap.size) (by (first | omega | (simp only [World.size_alloc, World.size_setCell, size_drewN, World.size_drew] <;> omega))) (by (first | omega | (simp only [World.size_alloc, World.size_setCell, size_drewN, World.size_drew] <;> omega)))
  go_wp2_with fail
  refine (next_any (N := N) (m := m) (by repeat (first | with_reducible assumption | with_reducible apply Bst.alloc | with_reducible apply Bst.drew | with_reducible apply Bst.drewN | (with_reducible apply Bst.set1; rotate_left; (first | omega | (simp only [World.size_alloc, World.size_setCell, size_drewN, World.size_drew] <;> omega)))))).mono ?_
  rintro e w3 ⟨rfl, hs3, hb3⟩
  have z3 := hb3.le
  try simp only [World.size_alloc, World.size_setCell, size_drewN, World.size_drew] at z3
  obtain ⟨c3_0, f3_0, l3_0, n3_0, m3_0⟩ := hb3.facts (b := w.heap.size) (by (first | omega | (simp only [World.size_alloc, World.size_setCell, size_drewN, World.size_drew] <;> omega))) (by (first | omega | (simp only [World.size_alloc, World.size_setCell, size_drewN, World.size_drew] <;> omega)))
  obtain ⟨c3_1, f3_1, l3_1, n3_1, m3_1⟩ := hb3.facts (b := w2.heap.size) (by (first | omega | (simp only [World.size_alloc, World.size_setCell, size_drewN, World.size_drew] <;> omega))) (by (first | omega | (simp only [World.size_alloc, World.size_setCell, size_drewN, World.size_drew] <;> omega)))
  go_wp2_with fail
  refine (next_any (N := N) (m := m) (by repeat (first | with_reducible assumption | with_reducible apply Bst.alloc | with_reducible apply Bst.drew | with_reducible apply Bst.drewN | (with_reducible apply Bst.set1; rotate_left; (first | omega | (simp only [World.size_alloc, World.size_setCell, size_drewN, World.size_drew] <;> omega)))))).mono ?_
  rintro e w4 ⟨rfl, hs4, hb4⟩
  have z4 := hb4.le
  try simp only [World.size_alloc, World.size_setCell, size_drewN, World.size_drew] at z4
  obtain ⟨c4_0, f4_0, l4_0, n4_0, m4_0⟩ := hb4.facts (b := w.heap.size) (by (first | omega | (simp only [World.size_alloc, World.size_setCell, size_drewN, World.size_drew] <;> omega))) (by (first | omega | (simp only [World.size_alloc, World.size_setCell, size_drewN, World.size_drew] <;> omega)))
  obtain ⟨c4_1, f4_1, l4_1, n4_1, m4_1⟩ := hb4.facts (b := w2.heap.size) (by (first | omega | (simp only [World.size_alloc, World.size_setCell, size_drewN, World.size_drew] <;> omega))) (by (first | omega | (simp only [World.size_alloc, World.size_setCell, size_drewN, World.size_drew] <;> omega)))
  go_wp2_with fail
  refine (kid_b (N := N) (m := m) (by repeat (first | with_reducible assumption | with_reducible apply Bst.alloc | with_reducible apply Bst.drew | with_reducible apply Bst.drewN | (with_reducible apply Bst.set1; rotate_left; (first | omega | (simp only [World.size_alloc, World.size_setCell, size_drewN, World.size_drew] <;> omega))))) (NdK.stay (Nat.le_refl _) (But.same (lb := bb) (by repeat (first | with_reducible exact But.refl _ _ | with_reducible refine But.alloc ?_ _ | (with_reducible refine But.set1 ?_ ?_ _ _; rotate_left; (first | omega | (simp only [World.size_alloc, World.size_setCell, size_drewN, World.size_drew] <;> omega))) | with_reducible refine But.drew ?_ | with_reducible refine But.drewN ?_ _ | with_reducible refine But.trans ?_ (by assumption))) (by (first | omega | (simp only [World.size_alloc, World.size_setCell, size_drewN, World.size_drew] <;> omega))) (by (first | omega | (simp only [World.size_alloc, World.size_setCell, size_drewN, World.size_drew] <;> omega)))) _ _ hn) 1 y rfl).mono ?_
  rintro e w5 ⟨kv5, rfl, hk5, hs5, hb5⟩
  have z5 := hb5.le
  try simp only [World.size_alloc, World.size_setCell, size_drewN, World.size_drew] at z5
  obtain ⟨c5_0, f5_0, l5_0, n5_0, m5_0⟩ := hb5.facts (b := w.heap.size) (by (first | omega | (simp only [World.size_alloc, World.size_setCell, size_drewN, World.size_drew] <;> omega))) (by (first | omega | (simp only [World.size_alloc, World.size_setCell, size_drewN, World.size_drew] <;> omega)))
  obtain ⟨c5_1, f5_1, l5_1, n5_1, m5_1⟩ := hb5.facts (b := w2.heap.size) (by (first | omega | (simp only [World.size_alloc, World.size_setCell, size_drewN, World.size_drew] <;> omega))) (by (first | omega | (simp only [World.size_alloc, World.size_setCell, size_drewN, World.size_drew] <;> omega)))
  go_wp2_with fail
  refine (Hy.out _ _ N bb m _ hk5 (by repeat (first | with_reducible assumption | with_reducible apply Bst.alloc | with_reducible apply Bst.drew | with_reducible apply Bst.drewN | (with_reducible apply Bst.set1; rotate_left; (first | omega | (simp only [World.size_alloc, World.size_setCell, size_drewN, World.size_drew] <;> omega)))))).mono ?_
  rintro e w6 ⟨rfl, hs6, hb6⟩
  have z6 := hb6.le
  try simp only [World.size_alloc, World.size_setCell, size_drewN, World.size_drew] at z6
  obtain ⟨c6_0, f6_0, l6_0, n6_0, m6_0⟩ := hb6.facts (b := w.heap.size) (by (first | omega | (simp only [World.size_alloc, World.size_setCell, size_drewN, World.size_drew] <;> omega))) (by (first | omega | (simp only [World.size_alloc, World.size_setCell, size_drewN, World.size_drew] <;> omega)))
  obtain ⟨c6_1, f6_1, l6_1, n6_1, m6_1⟩ := hb6.facts (b := w2.heap.size) (by (first | omega | (simp only [World.size_alloc, World.size_setCell, size_drewN, World.size_drew] <;> omega))) (by (first | omega | (simp only [World.size_alloc, World.size_setCell, size_drewN, World.size_drew] <;> omega)))
  go_wp2_with fail
  refine (next_any (N := N) (m := m) (by repeat (first | with_reducible assumption | with_reducible apply Bst.alloc | with_reducible apply Bst.drew | with_reducible apply Bst.drewN | (with_reducible apply Bst.set1; rotate_left; (first | omega | (simp only [World.size_alloc, World.size_setCell, size_drewN, World.size_drew] <;> omega)))))).mono ?_
  rintro e w7 ⟨rfl, hs7, hb7⟩
  have z7 := hb7.le
  try simp only [World.size_alloc, World.size_setCell, size_drewN, World.size_drew] at z7
  obtain ⟨c7_0, f7_0, l7_0, n7_0, m7_0⟩ := hb7.facts (b := w.heap.size) (by (first | omega | (simp only [World.size_alloc, World.size_setCell, size_drewN, World.size_drew] <;> omega))) (by (first | omega | (simp only [World.size_alloc, World.size_setCell, size_drewN, World.size_drew] <;> omega)))
  obtain ⟨c7_1, f7_1, l7_1, n7_1, m7_1⟩ := hb7.facts (b := w2.heap.size) (by (first | omega | (simp only [World.size_alloc, World.size_setCell, size_drewN, World.size_drew] <;> omega))) (by (first | omega | (simp only [World.size_alloc, World.size_setCell, size_drewN, World.size_drew] <;> omega)))
  go_wp2_with fail
  refine (next_any (N := N) (m := m) (by repeat (first | with_reducible assumption | with_reducible apply Bst.alloc | with_reducible apply Bst.drew | with_reducible apply Bst.drewN | (with_reducible apply Bst.set1; rotate_left; (first | omega | (simp only [World.size_alloc, World.size_setCell, size_drewN, World.size_drew] <;> omega)))))).mono ?_
  rintro e w8 ⟨rfl, hs8, hb8⟩
  have z8 := hb8.le
  try simp only [World.size_alloc, World.size_setCell, size_drewN, World.size_drew] at z8
  obtain ⟨c8_0, f8_0, l8_0, n8_0, m8_0⟩ := hb8.facts (b := w.heap.size) (by (first | omega | (simp only [World.size_alloc, World.size_setCell, size_drewN, World.size_drew] <;> omega))) (by (first | omega | (simp only [World.size_alloc, World.size_setCell, size_drewN, World.size_drew] <;> omega)))
  obtain ⟨c8_1, f8_1, l8_1, n8_1, m8_1⟩ := hb8.facts (b := w2.heap.size) (by (first | omega | (simp only [World.size_alloc, World.size_setCell, size_drewN, World.size_drew] <;> omega))) (by (first | omega | (simp only [World.size_alloc, World.size_setCell, size_drewN, World.size_drew] <;> omega)))
  go_wp2_with fail
  go_ret
  unfold EPost
  rw [HV.out]
  unfold mkAsrt
  dsimp only
  refine ⟨_, rfl, ?_, (by repeat (first | with_reducible assumption | with_reducible apply Bst.alloc | with_reducible apply Bst.drew | with_reducible apply Bst.drewN | (with_reducible apply Bst.set1; rotate_left; (first | omega | (simp only [World.size_alloc, World.size_setCell, size_drewN, World.size_drew] <;> omega))))), (by repeat (first | with_reducible exact But.refl _ _ | with_reducible refine But.alloc ?_ _ | (with_reducible refine But.set1 ?_ ?_ _ _; rotate_left; (first | omega | (simp only [World.size_alloc, World.size_setCell, size_drewN, World.size_drew] <;> omega))) | with_reducible refine But.drew ?_ | with_reducible refine But.drewN ?_ _ | with_reducible refine But.trans ?_ (by assumption)))⟩
  exact At_asrt.2 ⟨w2.heap.size, rfl, ⟨by (first | omega | (simp only [World.size_alloc, World.size_setCell, size_drewN, World.size_drew] <;> omega)), by (first | omega | (simp only [World.size_alloc, World.size_setCell, size_drewN, World.size_drew] <;> omega))⟩, _, _, by go_cell, ha2.wide (by repeat (first | with_reducible exact MidI.refl _ _ _ | (with_reducible refine MidI.alloc ?_ ?_ _; rotate_left; (first | omega | (simp only [World.size_alloc, World.size_setCell, size_drewN, World.size_drew] <;> omega))) | (with_reducible refine MidI.set1 ?_ ?_ _ _; rotate_left; (first | omega | (simp only [World.size_alloc, World.size_setCell, size_drewN, World.size_drew] <;> omega))) | with_reducible refine MidI.drew ?_ | with_reducible refine MidI.drewN ?_ _ | (with_reducible refine MidI.but ?_ (by assumption) ?_ ?_; rotate_left; (first | omega | (simp only [World.size_alloc, World.size_setCell, size_drewN, World.size_drew] <;> omega)); (first | omega | (simp only [World.size_alloc, World.size_setCell, size_drewN, World.size_drew] <;> omega))))) (by (first | omega | (simp only [World.size_alloc, World.size_setCell, size_drewN, World.size_drew] <;> omega))) (by (first | omega | (simp only [World.size_alloc, World.size_setCell, size_drewN, World.size_drew] <;> omega))), by go_cell, by go_cell, AtO_none.2 rfl, by go_cell⟩

theorem len_two {α : Type} {l : List α} (h : l.length = 2) : ∃ x y, l = [x, y] := by
  match l, h with
  | [x, y], _ => exact ⟨x, y, rfl⟩

theorem expr_any : ∀ (m : Nat) (n : Nd), n.nodes ≤ m → m ≤ 400 → shE n = true → ExprOK n := by
  intro m
  induction m with
  | zero => intro n hm; have := n.nodes_pos; omega
  | succ m ih =>
    intro n hm h400 hs
    obtain ⟨k, t, ks⟩ := n
    have hsub : ∀ x, x ∈ ks → shE x = true → ExprOK x := fun x hx hsx => ih x (by have := nodesL_mem hx; simp only [Nd.nodes] at hm; omega) (by omega) hsx
    have hlen : ks.length ≤ 400 := by have := nodesL_length ks; simp only [Nd.nodes] at hm; omega
    rw [shE_eq] at hs
    split at hs
    · rename_i h
      obtain rfl : ks = [] := by simpa using hs
      rcases h with h | h <;> obtain rfl := ba_eq h
      · exact expr_name t
      · exact expr_literal t
    · split at hs
      · rename_i h
        obtain rfl := ba_eq h
        match ks, hs, hsub with
        | [], hs, _ => simp [shE2] at hs
        | [_], hs, _ => simp [shE2] at hs
        | _ :: _ :: _ :: _, hs, _ => simp [shE2] at hs
        | [x, y], hs, hsub =>
          simp only [shE2, Bool.and_eq_true, Bool.or_eq_true] at hs
          have hx := hsub x (by simp) hs.2.1
          cases hmy : miss y
          · rw [hmy] at hs
            exact expr_assert t x y hx (hsub y (by simp) (by simpa using hs.2.2)) hmy
          · exact expr_assert_none t x y hx hmy
      · simp only [Bool.and_eq_true, decide_eq_true_eq, List.all_eq_true] at hs
        obtain ⟨⟨hk, hall⟩, har⟩ := hs
        have hall : ∀ x, x ∈ ks → ExprOK x := fun x hx => hsub x hx (hall x hx)
        rename_i hn1 hn2 _
        simp only [exprKinds, List.mem_cons, List.not_mem_nil, or_false] at hk
        rcases hk with h | h | h | h | h | h | h | h | h
        · exact absurd (Or.inl h) hn1
        · exact absurd (Or.inr h) hn1
        · obtain rfl := ba_eq h
          simp [arityOk] at har
          obtain ⟨x, rfl⟩ := List.length_eq_one_iff.1 har.2
          exact expr_paren t x (hall x (by simp))
        · obtain rfl := ba_eq h
          simp [arityOk] at har
          obtain ⟨x, rfl⟩ := List.length_eq_one_iff.1 har.2
          exact expr_unary t x (hall x (by simp))
        · obtain rfl := ba_eq h
          simp [arityOk] at har
          obtain ⟨x, y, rfl⟩ := len_two har.2
          exact expr_binary t x y (hall x (by simp)) (hall y (by simp))
        · obtain rfl := ba_eq h
          simp [arityOk] at har
          obtain ⟨x, rfl⟩ := List.length_eq_one_iff.1 har
          exact expr_select t x (hall x (by simp))
        · obtain rfl := ba_eq h
          simp [arityOk] at har
          obtain ⟨x, y, rfl⟩ := len_two har.2
          exact expr_index t x y (hall x (by simp)) (hall y (by simp))
        · obtain rfl := ba_eq h
          simp [arityOk] at har
          match ks, hlen, har, hall with
          | x :: r, hlen, _, hall => exact expr_call t x r (hall x (by simp)) (fun y hy => hall y (by simp [hy])) (by simp at hlen; omega)
          | [], _, har, _ => simp at har
        · exact absurd h hn2
end Go.Proofs.YtkkgfgllfbahlaaGreatFmt

namespace Go.Proofs.YtkkgfgllfbahlaaGreatFmt
open Go Go.RowKit
set_option linter.unusedSimpArgs false

/-- The builder's stmt answers on this node. -/
def StmtOK (n : Nd) : Prop := ∀ (kv : Value) (w : World) (N bb m : Nat) (l : List Int), NdK N w n kv → Bst N bb m l w →
  Calls Tryz.prog 51 #[.pointer (some ⟨bb, 0, none⟩), .agg #[.string n.kind, .string n.text, kv]] w (EPost N bb m (bS n l) w)

theorem info_stmt : (Tryz.prog.info? 49).map (fun i => (i.zero, i.size, i.bytes)) = some (some .nilIface, 1, 16) := by kernel_rfl
theorem under_stmts : Tryz.prog.underlying 193 = some (.slice 49) := by kernel_rfl

set_option maxRecDepth 100000 in
set_option maxHeartbeats 2000000 in
theorem stmts_b (ks : List Nd) (hks : ∀ k, k ∈ ks → StmtOK k) (hlen : ks.length ≤ 400) (kv : Value) (w : World) (N bb m : Nat) (l : List Int) (hn : SlK N w ks kv) (hs0 : Bst N bb m l w) :
    Calls Tryz.prog 88 #[.pointer (some ⟨bb, 0, none⟩), kv] w (LPost N bb m (bSs ks l) w) := by
  have hN1 := hs0.hN
  have hN2 := hs0.hb
  have hN3 := hs0.hm
  have z0 := hs0.sz
  have HK := hide hks
  clear hks
  obtain ⟨i0, hi, hz0, hz1, hz2⟩ := info_parts info_stmt
  rcases hn with ⟨⟨oa, oc, rfl, hoc⟩, rfl⟩ | ⟨b, o, cap, rfl, hc, hm, hr⟩
  · go_enter Tryz.func88, Tryz.ntmps88
    go_wp2_with fail
    refine wp_loop_rounds 1 ?_
    rw [rounds_succ]
    go_wp2_with fail
    go_ret
    exact ⟨_, rfl, .inl ⟨rfl, rfl⟩, hs0, But.refl _ _⟩
  · unfold maxLen at hm
    have HR := hide hr
    clear hr
    go_enter Tryz.func88, Tryz.ntmps88
    go_wp2_with fail
    go_loopw [5, 10] (fun v c wr => ExRel 49 N bb m (fun i li => bSs (ks.drop i) li) ks.length l w v c wr) (fun _ c _ => ks.length - (intOf c).toNat)
    case atStart => exact ⟨0, l, [], [], Nat.zero_le _, rfl, by simp, World.ownsRow_nil _ _ _ _, ⟨rfl, fun j a u h => by simp at h⟩, hs0, But.refl _ _⟩
    case round =>
      obtain ⟨i, li, xs, vs, hin, rfl, hF, hown, hels, hsr, hbr⟩ := hrel
      by_cases hlt : i < ks.length
      · obtain ⟨x, hx⟩ : ∃ x, ks[i]? = some x := ⟨ks[i], by simp⟩
        obtain ⟨xv, hbn, c0, c1, c2, hkn⟩ := HR.out.get hx
        obtain ⟨xa, xcap, hxv, -, -⟩ := hkn.slice
        subst hxv
        have hzr := hbr.le
        have s0 := (hbr.at (b := b) (by omega) (by omega) (o + 3 * i)).trans c0
        have s1 := (hbr.at (b := b) (by omega) (by omega) (o + 3 * i + 1)).trans c1
        have s2 := (hbr.at (b := b) (by omega) (by omega) (o + 3 * i + 2)).trans c2
        rw [Nat.mul_comm] at s0 s1 s2
        have hxw : NdK N wr x (.slice xa x.kids.length xcap) := NdK.stay (Nat.le_refl _) (But.same (lb := bb) hbr (by omega) hN2) _ _ hkn
        have HX := hide (HK.out x (List.mem_of_getElem? hx))
        have hdrop : ks.drop i = x :: ks.drop (i + 1) := by
          rw [List.drop_eq_getElem_cons hlt]
          rw [List.getElem?_eq_getElem hlt] at hx
          injection hx with hx
          rw [hx]
        have HD := hide hdrop
        have HF := hide hF
        have HO := hide hown
        have HE := hide hels
        clear hdrop hF hown hels c0 c1 c2 hkn hx
        go_wp2_with fail
        refine (HX.out _ _ N bb m _ (NdK.stay (Nat.le_refl _) (But.same (lb := bb) (by repeat (first | with_reducible exact But.refl _ _ | with_reducible refine But.alloc ?_ _ | (with_reducible refine But.set1 ?_ ?_ _ _; rotate_left; (first | omega | (simp only [World.size_alloc, World.size_setCell, size_drewN, World.size_drew] <;> omega))) | with_reducible refine But.drew ?_ | with_reducible refine But.drewN ?_ _ | with_reducible refine But.trans ?_ (by assumption))) (by (first | omega | (simp only [World.size_alloc, World.size_setCell, size_drewN, World.size_drew] <;> omega))) (by (first | omega | (simp only [World.size_alloc, World.size_setCell, size_drewN, World.size_drew] <;> omega)))) _ _ hxw) (by repeat (first | with_reducible assumption | with_reducible apply Bst.alloc | with_reducible apply Bst.drew | with_reducible apply Bst.drewN | (with_reducible apply Bst.set1; rotate_left; (first | omega | (simp only [World.size_alloc, World.size_setCell, size_drewN, World.size_drew] <;> omega)))))).mono ?_
        rintro e w2 ⟨v2, rfl, ha2, hs2, hb2⟩
        obtain ⟨p2, rfl, hp2⟩ := ha2.ptr
        have z2 := hb2.le
        try simp only [World.size_alloc, World.size_setCell, size_drewN, World.size_drew] at z2
        obtain ⟨c2_0, f2_0, l2_0, n2_0, m2_0⟩ := hb2.facts (b := wr.heap.size) (by (first | omega | (simp only [World.size_alloc, World.size_setCell, size_drewN, World.size_drew] <;> omega))) (by (first | omega | (simp only [World.size_alloc, World.size_setCell, size_drewN, World.size_drew] <;> omega)))
        go_wp2_with (first
          | (at_builtin
             have hbX : But bb wr (w2.alloc (.cells #[.iface (bS x li).1.ptype (.pointer (some ⟨p2, 0, none⟩))] 49)) := (by repeat (first | with_reducible exact But.refl _ _ | with_reducible refine But.alloc ?_ _ | (with_reducible refine But.set1 ?_ ?_ _ _; rotate_left; (first | omega | (simp only [World.size_alloc, World.size_setCell, size_drewN, World.size_drew] <;> omega))) | with_reducible refine But.drew ?_ | with_reducible refine But.drewN ?_ _ | with_reducible refine But.trans ?_ (by assumption)))
             refine wpList_append_lies _ rfl _ _ 193 rfl w.heap.size 49 i0 .nilIface 1 16 under_stmts hi hz0 hz1 hz2 rfl (by decide) _ _ _ rfl (HO.out.kept hbX (Or.inr (fun e => by have := HO.out.lt bb e; omega))) ⟨w2.heap.size, 0, none⟩ 1 1 [.iface (bS x li).1.ptype (.pointer (some ⟨p2, 0, none⟩))] rfl rfl (cell_one_new _ _ _) (fun u hu => by simp at hu; subst hu; rfl) (by decide) (by unfold maxLen; omega) (by omega) (by (first | omega | (simp only [World.size_alloc, World.size_setCell, size_drewN, World.size_drew] <;> omega))) _ rfl ?_
             intro g cap4 w4 hown4 hgrow4 hat4 hlt4))
        have HG := hide (show _ ∧ _ ∧ _ from ⟨hown4, hgrow4, hat4⟩)
        clear hown4 hgrow4 hat4
        go_wp2_with fail
        go_roundw
        case rel =>
          obtain ⟨hown4, hgrow4, hat4⟩ := HG.out
          exact ExRel.snoc (l2 := (bS x li).2) (by omega) z0 hlt (by go_num) HF.out (by simp only [HD.out]; simp [bSs]) HO.out HE.out hbr hbX (by (first | omega | (simp only [World.size_alloc, World.size_setCell, size_drewN, World.size_drew] <;> omega))) ha2 (by repeat (first | with_reducible exact MidI.refl _ _ _ | (with_reducible refine MidI.alloc ?_ ?_ _; rotate_left; (first | omega | (simp only [World.size_alloc, World.size_setCell, size_drewN, World.size_drew] <;> omega))) | (with_reducible refine MidI.set1 ?_ ?_ _ _; rotate_left; (first | omega | (simp only [World.size_alloc, World.size_setCell, size_drewN, World.size_drew] <;> omega))) | with_reducible refine MidI.drew ?_ | with_reducible refine MidI.drewN ?_ _ | (with_reducible refine MidI.but ?_ (by assumption) ?_ ?_; rotate_left; (first | omega | (simp only [World.size_alloc, World.size_setCell, size_drewN, World.size_drew] <;> omega)); (first | omega | (simp only [World.size_alloc, World.size_setCell, size_drewN, World.size_drew] <;> omega))))) (by (first | omega | (simp only [World.size_alloc, World.size_setCell, size_drewN, World.size_drew] <;> omega))) (by repeat (first | with_reducible assumption | with_reducible apply Bst.alloc | with_reducible apply Bst.drew | with_reducible apply Bst.drewN | (with_reducible apply Bst.set1; rotate_left; (first | omega | (simp only [World.size_alloc, World.size_setCell, size_drewN, World.size_drew] <;> omega))))) hown4 hgrow4 hat4
        case measure => simp [intOf]; omega
      · have hie : i = ks.length := by omega
        subst hie
        go_wp2_with fail
        go_ret
        refine ⟨_, rfl, ?_, ?_, hbr⟩
        · simp only [List.drop_length, bSs, List.append_nil] at hF
          simp only [List.drop_zero] at hF
          rw [hF]
          refine atS_of hown (hels.stay (fun k hk => ⟨hk.1, hk.2.1⟩) (Mid.refl _ _)) fun g hg => ⟨(hown.lt g hg).1, (hown.lt g hg).2⟩
        · simp only [List.drop_length, bSs, List.append_nil] at hF
          simp only [List.drop_zero] at hF
          rw [hF]
          exact hsr

set_option maxRecDepth 100000 in
set_option maxHeartbeats 2000000 in
theorem block_b (n : Nd) (hks : ∀ k, k ∈ n.kids → StmtOK k) (hlen : n.kids.length ≤ 400) (kv : Value) (w : World) (N bb m : Nat) (l : List Int) (hn : NdK N w n kv) (hs0 : Bst N bb m l w) :
    Calls Tryz.prog 75 #[.pointer (some ⟨bb, 0, none⟩), .agg #[.string n.kind, .string n.text, kv]] w (PPost 98 N bb m (bB n l) w) := by
  have HR := hide hks
  clear hks
  obtain ⟨k, t, ks⟩ := n
  obtain ⟨a, cap, hv, -, -⟩ := hn.slice
  subst hv
  have hN1 := hs0.hN
  have hN2 := hs0.hb
  have hN3 := hs0.hm
  have z0 := hs0.sz
  simp only [Nd.kids_mk] at hlen
  simp only [Nd.kids_mk, Nd.kind_mk, Nd.text_mk, List.length_cons, List.length_nil] at hn ⊢
  go_enter Tryz.func75, Tryz.ntmps75
  go_wp2_with fail
  refine (next_any (N := N) (m := m) (by repeat (first | with_reducible assumption | with_reducible apply Bst.alloc | with_reducible apply Bst.drew | with_reducible apply Bst.drewN | (with_reducible apply Bst.set1; rotate_left; (first | omega | (simp only [World.size_alloc, World.size_setCell, size_drewN, World.size_drew] <;> omega)))))).mono ?_
  rintro e w1 ⟨rfl, hs1, hb1⟩
  have z1 := hb1.le
  try simp only [World.size_alloc, World.size_setCell, size_drewN, World.size_drew] at z1
  obtain ⟨c1_0, f1_0, l1_0, n1_0, m1_0⟩ := hb1.facts (b := w.heap.size) (by (first | omega | (simp only [World.size_alloc, World.size_setCell, size_drewN, World.size_drew] <;> omega))) (by (first | omega | (simp only [World.size_alloc, World.size_setCell, size_drewN, World.size_drew] <;> omega)))
  go_wp2_with fail
  have hsl : SlK N (w1.alloc (.cells #[.int .i64 (hd l), .slice none 0 0, .int .i64 0] 195)) ks (.slice a ks.length cap) := by
    have hq : NdK N (w1.alloc (.cells #[.int .i64 (hd l), .slice none 0 0, .int .i64 0] 195)) (.mk k t ks) (.slice a ks.length cap) := (NdK.stay (Nat.le_refl _) (But.same (lb := bb) (by repeat (first | with_reducible exact But.refl _ _ | with_reducible refine But.alloc ?_ _ | (with_reducible refine But.set1 ?_ ?_ _ _; rotate_left; (first | omega | (simp only [World.size_alloc, World.size_setCell, size_drewN, World.size_drew] <;> omega))) | with_reducible refine But.drew ?_ | with_reducible refine But.drewN ?_ _ | with_reducible refine But.trans ?_ (by assumption))) (by (first | omega | (simp only [World.size_alloc, World.size_setCell, size_drewN, World.size_drew] <;> omega))) (by (first | omega | (simp only [World.size_alloc, World.size_setCell, size_drewN, World.size_drew] <;> omega)))) _ _ hn)
    exact NdK_iff.1 hq
  refine (stmts_b ks HR.out hlen _ _ N bb m _ hsl (by repeat (first | with_reducible assumption | with_reducible apply Bst.alloc | with_reducible apply Bst.drew | with_reducible apply Bst.drewN | (with_reducible apply Bst.set1; rotate_left; (first | omega | (simp only [World.size_alloc, World.size_setCell, size_drewN, World.size_drew] <;> omega)))))).mono ?_
  rintro e w2 ⟨av, rfl, ha2, hs2, hb2⟩
  have z2 := hb2.le
  try simp only [World.size_alloc, World.size_setCell, size_drewN, World.size_drew] at z2
  obtain ⟨c2_0, f2_0, l2_0, n2_0, m2_0⟩ := hb2.facts (b := w.heap.size) (by (first | omega | (simp only [World.size_alloc, World.size_setCell, size_drewN, World.size_drew] <;> omega))) (by (first | omega | (simp only [World.size_alloc, World.size_setCell, size_drewN, World.size_drew] <;> omega)))
  obtain ⟨c2_1, f2_1, l2_1, n2_1, m2_1⟩ := hb2.facts (b := w1.heap.size) (by (first | omega | (simp only [World.size_alloc, World.size_setCell, size_drewN, World.size_drew] <;> omega))) (by (first | omega | (simp only [World.size_alloc, World.size_setCell, size_drewN, World.size_drew] <;> omega)))
  obtain ⟨sb, slen, scap, rfl⟩ := ha2.slice
  go_wp2_with fail
  refine (next_any (N := N) (m := m) (by repeat (first | with_reducible assumption | with_reducible apply Bst.alloc | with_reducible apply Bst.drew | with_reducible apply Bst.drewN | (with_reducible apply Bst.set1; rotate_left; (first | omega | (simp only [World.size_alloc, World.size_setCell, size_drewN, World.size_drew] <;> omega)))))).mono ?_
  rintro e w3 ⟨rfl, hs3, hb3⟩
  have z3 := hb3.le
  try simp only [World.size_alloc, World.size_setCell, size_drewN, World.size_drew] at z3
  obtain ⟨c3_0, f3_0, l3_0, n3_0, m3_0⟩ := hb3.facts (b := w.heap.size) (by (first | omega | (simp only [World.size_alloc, World.size_setCell, size_drewN, World.size_drew] <;> omega))) (by (first | omega | (simp only [World.size_alloc, World.size_setCell, size_drewN, World.size_drew] <;> omega)))
  obtain ⟨c3_1, f3_1, l3_1, n3_1, m3_1⟩ := hb3.facts (b := w1.heap.size) (by (first | omega | (simp only [World.size_alloc, World.size_setCell, size_drewN, World.size_drew] <;> omega))) (by (first | omega | (simp only [World.size_alloc, World.size_setCell, size_drewN, World.size_drew] <;> omega)))
  go_wp2_with fail
  go_ret
  unfold PPost
  rw [show bB (.mk k t ks) l = mkBlock l (bSs ks l.tail) by simp [bB]]
  unfold mkBlock
  dsimp only
  refine ⟨_, rfl, ?_, (by repeat (first | with_reducible assumption | with_reducible apply Bst.alloc | with_reducible apply Bst.drew | with_reducible apply Bst.drewN | (with_reducible apply Bst.set1; rotate_left; (first | omega | (simp only [World.size_alloc, World.size_setCell, size_drewN, World.size_drew] <;> omega))))), (by repeat (first | with_reducible exact But.refl _ _ | with_reducible refine But.alloc ?_ _ | (with_reducible refine But.set1 ?_ ?_ _ _; rotate_left; (first | omega | (simp only [World.size_alloc, World.size_setCell, size_drewN, World.size_drew] <;> omega))) | with_reducible refine But.drew ?_ | with_reducible refine But.drewN ?_ _ | with_reducible refine But.trans ?_ (by assumption)))⟩
  exact At_block.2 ⟨w1.heap.size, rfl, ⟨by (first | omega | (simp only [World.size_alloc, World.size_setCell, size_drewN, World.size_drew] <;> omega)), by (first | omega | (simp only [World.size_alloc, World.size_setCell, size_drewN, World.size_drew] <;> omega))⟩, _, by go_cell, by go_cell, ha2.wide (by repeat (first | with_reducible exact MidI.refl _ _ _ | (with_reducible refine MidI.alloc ?_ ?_ _; rotate_left; (first | omega | (simp only [World.size_alloc, World.size_setCell, size_drewN, World.size_drew] <;> omega))) | (with_reducible refine MidI.set1 ?_ ?_ _ _; rotate_left; (first | omega | (simp only [World.size_alloc, World.size_setCell, size_drewN, World.size_drew] <;> omega))) | with_reducible refine MidI.drew ?_ | with_reducible refine MidI.drewN ?_ _ | (with_reducible refine MidI.but ?_ (by assumption) ?_ ?_; rotate_left; (first | omega | (simp only [World.size_alloc, World.size_setCell, size_drewN, World.size_drew] <;> omega)); (first | omega | (simp only [World.size_alloc, World.size_setCell, size_drewN, World.size_drew] <;> omega))))) (by (first | omega | (simp only [World.size_alloc, World.size_setCell, size_drewN, World.size_drew] <;> omega))) (by (first | omega | (simp only [World.size_alloc, World.size_setCell, size_drewN, World.size_drew] <;> omega))), by go_cell⟩
end Go.Proofs.YtkkgfgllfbahlaaGreatFmt
