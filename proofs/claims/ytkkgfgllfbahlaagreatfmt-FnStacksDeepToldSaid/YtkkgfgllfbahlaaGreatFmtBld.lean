/- The builder's state (Bst), and its small functions: none, kid, rest, next, ident.
builder.expr, builder.ident (printed by gen_be.py). -/
import Derived.Test.YtkkgfgllfbahlaaGreatFmtBut
import Derived.Test.YtkkgfgllfbahlaaGreatFmtAst
import Derived.Deep.RegionHeld3
import Derived.OpenShut
set_option linter.unusedVariables false
set_option linter.unusedSimpArgs false
namespace Go.Proofs.YtkkgfgllfbahlaaGreatFmt
open Go Go.RowKit

theorem size_drewN (w : World) (n : Nat) : (w.drewN n).heap.size = w.heap.size := rfl
def intV (i : Int) : Value := .int .i64 i

/-- The builder in block bb has the places l before it; nodes lie below N, what lay before the builder below m. -/
structure Bst (N bb m : Nat) (l : List Int) (w : World) : Prop where
  hN : 0 < N
  hb : N ≤ bb
  hm : bb < m
  sz : m ≤ w.heap.size
  tok : TokTab w
  st : ∃ sv, w.cell? ⟨bb, 0, none⟩ = some sv ∧ ((sv = .slice none 0 0 ∧ l = []) ∨ ∃ b o cap, sv = .slice (some ⟨b, o, none⟩) l.length cap ∧ l.length ≤ cap ∧ cap ≤ maxLen ∧ b ≠ bb ∧ b < m ∧ CellsAt w b o (l.map intV))
  fr : w.frozen? ⟨bb, 0, none⟩ = false

/-- Old blocks lie as they lay, and so do the builder's own cells. -/
theorem Bst.keep {N bb m : Nat} {l : List Int} {w w1 : World} (h : Bst N bb m l w) (hs : w.heap.size ≤ w1.heap.size) (hk : ∀ k, k < m → w1.heap[k]? = w.heap[k]?) : Bst N bb m l w1 := by
  have hc : ∀ b o, b < m → w1.cell? ⟨b, o, none⟩ = w.cell? ⟨b, o, none⟩ := fun b o hb => World.cell?_of_block (hk b hb)
  have hm0 : 0 < m := by have := h.hN; have := h.hb; have := h.hm; omega
  refine ⟨h.hN, h.hb, h.hm, Nat.le_trans h.sz hs, fun t ht => (hc 0 t hm0).trans (h.tok t ht), ?_, (World.frozen?_of_block (hk bb h.hm)).trans h.fr⟩
  obtain ⟨sv, h1, h2⟩ := h.st
  refine ⟨sv, (hc bb 0 h.hm).trans h1, h2.imp id ?_⟩
  rintro ⟨b, o, cap, e, l1, l2, hne, hbm, hr⟩
  exact ⟨b, o, cap, e, l1, l2, hne, hbm, fun i v hi => (hc b (o + i) hbm).trans (hr i v hi)⟩
theorem Bst.alloc {N bb m : Nat} {l : List Int} {w : World} (h : Bst N bb m l w) (o : Obj) : Bst N bb m l (w.alloc o) :=
  h.keep (by simp) fun k hk => Below.heap_alloc w o k (Nat.lt_of_lt_of_le hk h.sz)
theorem Bst.drewN {N bb m : Nat} {l : List Int} {w : World} (h : Bst N bb m l w) (n : Nat) : Bst N bb m l (w.drewN n) := h.keep (Nat.le_refl _) fun _ _ => rfl
theorem Bst.drew {N bb m : Nat} {l : List Int} {w : World} (h : Bst N bb m l w) : Bst N bb m l w.drew := h.keep (Nat.le_refl _) fun _ _ => rfl
theorem Bst.set {N bb m : Nat} {l : List Int} {w : World} (h : Bst N bb m l w) {p : Addr} (hp : m ≤ p.block) (v : Value) : Bst N bb m l (w.setCell p v) :=
  h.keep (by simp [World.setCell]) fun k hk => Below.heap_setCell w p v k (by omega)
theorem Bst.bel {N bb m : Nat} {l : List Int} {w w1 : World} (h : Bst N bb m l w) (hb : Bel w w1) : Bst N bb m l w1 :=
  h.keep hb.le fun k hk => hb.block k (Nat.lt_of_lt_of_le hk h.sz)

theorem But.bel' {lb : Nat} {w w1 : World} (h : Bel w w1) : But lb w w1 := But.of_bel h
theorem But.frozen {lb : Nat} {w w1 : World} (h : But lb w w1) {N : Nat} (hN : w.heap.size = N) : ∀ b o, b < N → b ≠ lb → w1.frozen? ⟨b, o, none⟩ = w.frozen? ⟨b, o, none⟩ := fun b o hb hne =>
  World.frozen?_of_block (h.block b (by omega) (fun e => hne (by injection e)))

/-- Another slice of places laid into the builder. -/
theorem Bst.take {N bb m : Nat} {l l1 : List Int} {w : World} {sv sv1 : Value} (h : Bst N bb m l w) (hc : w.cell? ⟨bb, 0, none⟩ = some sv)
    (hs : (sv1 = .slice none 0 0 ∧ l1 = []) ∨ ∃ b o cap, sv1 = .slice (some ⟨b, o, none⟩) l1.length cap ∧ l1.length ≤ cap ∧ cap ≤ maxLen ∧ b ≠ bb ∧ b < m ∧ CellsAt w b o (l1.map intV)) :
    Bst N bb m l1 (w.setCell ⟨bb, 0, none⟩ sv1) := by
  have ho : ∀ b o, b ≠ bb → (w.setCell ⟨bb, 0, none⟩ sv1).cell? ⟨b, o, none⟩ = w.cell? ⟨b, o, none⟩ := fun b o hb => World.cell?_of_block (Below.heap_setCell w _ _ b hb)
  have hm0 : (0 : Nat) ≠ bb := by have := h.hN; have := h.hb; omega
  refine ⟨h.hN, h.hb, h.hm, by simp [World.setCell]; exact h.sz, fun t ht => (ho 0 t hm0).trans (h.tok t ht), ⟨sv1, World.cell?_setCell_same' _ _ _ (by rw [hc]; rfl), hs.imp id ?_⟩, by rw [World.frozen?_setCell]; exact h.fr⟩
  rintro ⟨b, o, cap, e, l1, l2, hne, hbm, hr⟩
  exact ⟨b, o, cap, e, l1, l2, hne, hbm, fun i v hi => (ho b (o + i) hne).trans (hr i v hi)⟩

theorem But.at {bb : Nat} {w w1 : World} (h : But bb w w1) {b : Nat} (hb : b < w.heap.size) (hne : b ≠ bb) : ∀ j, w1.cell? ⟨b, j, none⟩ = w.cell? ⟨b, j, none⟩ := fun j =>
  World.cell?_of_block (h.block b hb (fun e => hne (by injection e)))
theorem But.atf {bb : Nat} {w w1 : World} (h : But bb w w1) {b : Nat} (hb : b < w.heap.size) (hne : b ≠ bb) : ∀ j, w1.frozen? ⟨b, j, none⟩ = w.frozen? ⟨b, j, none⟩ := fun j =>
  World.frozen?_of_block (h.block b hb (fun e => hne (by injection e)))

/-- What the walk wants to know of a block behind a call. -/
theorem But.facts {bb : Nat} {w w1 : World} (h : But bb w w1) {b : Nat} (hb : b < w.heap.size) (hne : b ≠ bb) : (∀ j, w1.cell? ⟨b, j, none⟩ = w.cell? ⟨b, j, none⟩) ∧ (∀ j, w1.frozen? ⟨b, j, none⟩ = w.frozen? ⟨b, j, none⟩) ∧ b < w1.heap.size ∧ ¬ b = w1.heap.size ∧ ¬ w1.heap.size = b :=
  have := h.le
  ⟨h.at hb hne, h.atf hb hne, by omega, by omega, by omega⟩
/-- The blocks from lo on and below hi. -/
def In (lo hi : Nat) (k : Nat) : Prop := lo ≤ k ∧ k < hi
def MidI (lo hi : Nat) (w w1 : World) : Prop := Mid (In lo hi) w w1
theorem MidI.refl (lo hi : Nat) (w : World) : MidI lo hi w w := fun _ _ => rfl
theorem MidI.alloc {lo hi : Nat} {w w1 : World} (h : MidI lo hi w w1) (hh : hi ≤ w1.heap.size) (o : Obj) : MidI lo hi w (w1.alloc o) := fun k hk => (Below.heap_alloc w1 o k (Nat.lt_of_lt_of_le hk.2 hh)).trans (h k hk)
theorem MidI.set {lo hi : Nat} {w w1 : World} (h : MidI lo hi w w1) {p : Addr} (hp : p.block < lo ∨ hi ≤ p.block) (v : Value) : MidI lo hi w (w1.setCell p v) := fun k hk =>
  (Below.heap_setCell w1 p v k (by have := hk.1; have := hk.2; omega)).trans (h k hk)
theorem MidI.drew {lo hi : Nat} {w w1 : World} (h : MidI lo hi w w1) : MidI lo hi w w1.drew := h
theorem MidI.drewN {lo hi : Nat} {w w1 : World} (h : MidI lo hi w w1) (n : Nat) : MidI lo hi w (w1.drewN n) := h
theorem MidI.but {lo hi bb : Nat} {w w1 w2 : World} (h : MidI lo hi w w1) (k : But bb w1 w2) (hb : bb < lo) (hh : hi ≤ w1.heap.size) : MidI lo hi w w2 := fun i hi' =>
  (k.block i (Nat.lt_of_lt_of_le hi'.2 hh) (fun e => by injection e with e; have := hi'.1; omega)).trans (h i hi')
theorem Bst.set1 {N bb m : Nat} {l : List Int} {w : World} {b o : Nat} {v : Value} (h : Bst N bb m l w) (hp : m ≤ b) : Bst N bb m l (w.setCell ⟨b, o, none⟩ v) := h.set hp v
theorem But.set1 {lb : Nat} {w w1 : World} {b : Nat} (h : But lb w w1) (hp : w.heap.size ≤ b) (o : Nat) (v : Value) : But lb w (w1.setCell ⟨b, o, none⟩ v) := h.setNew hp v
theorem MidI.set1 {lo hi : Nat} {w w1 : World} {b : Nat} (h : MidI lo hi w w1) (hp : b < lo ∨ hi ≤ b) (o : Nat) (v : Value) : MidI lo hi w (w1.setCell ⟨b, o, none⟩ v) := h.set hp v
/-- A node that was built lies on, and counts among more blocks. -/
theorem At.wide {lo hi lo1 hi1 : Nat} {w w1 : World} {a : Ast} {v : Value} (h : At (In lo hi) w a v) (hm : MidI lo hi w w1) (h1 : lo1 ≤ lo) (h2 : hi ≤ hi1) : At (In lo1 hi1) w1 a v :=
  h.stay (fun k hk => ⟨Nat.le_trans h1 hk.1, Nat.lt_of_lt_of_le hk.2 h2⟩) hm

theorem next_any {N bb m : Nat} {l : List Int} {w : World} (h : Bst N bb m l w) :
    Calls Tryz.prog 70 #[.pointer (some ⟨bb, 0, none⟩)] w fun e w' => e = .returned (.int .i64 (hd l)) ∧ Bst N bb m l.tail w' ∧ But bb w w' := by
  have H := hide h
  obtain ⟨sv, hcell, hsv⟩ := h.st
  have hfr := h.fr
  have hlt : bb < w.heap.size := Nat.lt_of_lt_of_le h.hm h.sz
  clear h
  rcases hsv with ⟨rfl, rfl⟩ | ⟨b, o, cap, rfl, hc, hm, hne, hbm, hr⟩
  · go_enter Tryz.func70, Tryz.ntmps70
    go_wp2_with fail
    go_ret
    exact ⟨rfl, H.out, But.refl _ _⟩
  · cases l with
    | nil =>
      simp only [List.length_nil] at hcell hc
      clear hr
      go_enter Tryz.func70, Tryz.ntmps70
      go_wp2_with fail
      go_ret
      exact ⟨rfl, H.out, But.refl _ _⟩
    | cons x l =>
      have c0 := hr 0 (intV x) (by simp)
      unfold intV at c0
      rw [Nat.add_zero] at c0
      unfold maxLen at hm
      have HR := hide hr
      simp only [List.length_cons] at hcell hc
      clear hr
      go_enter Tryz.func70, Tryz.ntmps70
      go_wp2_with fail
      all_goals go_ret
      all_goals refine ⟨rfl, ?_, (But.refl _ _).set _ _⟩
      · rename_i hc1
        obtain rfl : l = [] := by cases l with | nil => rfl | cons => simp at hc; omega
        have h := H.out
        exact h.take hcell (.inr ⟨b, o, 0, rfl, by simp, by unfold maxLen; omega, hne, hbm, by intro i v hi; simp at hi⟩)
      · have h := H.out
        refine h.take hcell (.inr ⟨b, o + 1, cap - 1, rfl, by omega, by unfold maxLen; omega, hne, hbm, ?_⟩)
        intro i v hi
        have := HR.out (i + 1) v (by simpa using hi)
        rwa [show o + 1 + i = o + (i + 1) by omega]

theorem kid_any {w : World} {n : Nd} {kv : Value} {N : Nat} (hn : NdK N w n kv) (hN : N ≤ w.heap.size) (i : Nat) (x : Nd) (hx : n.kids[i]? = some x) :
    Calls Tryz.prog 69 #[nodeV n kv, .int .i64 i] w fun e w' => ∃ xv, e = .returned (nodeV x xv) ∧ NdK N w' x xv ∧ Bel w w' := by
  obtain ⟨a, cap, hv, hcap, hmx⟩ := hn.slice
  subst hv
  have hi : i < n.kids.length := (List.getElem?_eq_some_iff.1 hx).1
  rcases NdK_iff.1 hn with ⟨hv, he⟩ | ⟨b, o, cap', hv, hc', hm', hr⟩
  · rw [he] at hi; simp at hi
  injection hv with e1 e2 e3
  subst e1 e3
  obtain ⟨xv, hbn, c0, c1, c2, hkn⟩ := hr.get hx
  obtain ⟨xa, xcap, hxv, -, -⟩ := hkn.slice
  subst hxv
  rw [Nat.mul_comm] at c0 c1 c2
  have HK := hide hkn
  clear hr hn hkn hx
  have hlt : b < w.heap.size := by omega
  have hb : Bel w (((w.alloc (.cells #[.string n.kind, .string n.text, .slice (some ⟨b, o, none⟩) n.kids.length cap] 24)).alloc (.cells #[.string x.kind, .string x.text, .slice xa x.kids.length xcap] 24))) := (by repeat (first | exact Bel.refl _ | assumption | refine Bel.alloc ?_ _ | refine Bel.drew ?_ | refine Bel.set ?_ (by first | exact Nat.le_refl _ | (simp; done) | (simp; omega)) _))
  have HB := hide hb
  clear hb
  unfold nodeV
  go_enter Tryz.func69, Tryz.ntmps69
  go_wp2_with fail
  refine bodyPost_ret (v := .agg #[.string x.kind, .string x.text, .slice xa x.kids.length xcap]) (by simp [results, Tryz.results69, go_sem]) rfl ⟨.slice xa x.kids.length xcap, rfl, ?_, ?_⟩
  · exact HK.out.stay (Nat.le_refl _) (HB.out.same hN)
  · exact HB.out
theorem kid_b {N bb m : Nat} {l : List Int} {w : World} (h : Bst N bb m l w) {n : Nd} {kv : Value} (hn : NdK N w n kv) (i : Nat) (x : Nd) (hx : n.kids[i]? = some x) :
    Calls Tryz.prog 69 #[nodeV n kv, .int .i64 i] w fun e w' => ∃ xv, e = .returned (.agg #[.string x.kind, .string x.text, xv]) ∧ NdK N w' x xv ∧ Bst N bb m l w' ∧ But bb w w' := by
  refine (kid_any hn (by have := h.hb; have := h.hm; have := h.sz; omega) i x hx).mono ?_
  rintro e w' ⟨xv, rfl, hk, hb⟩
  exact ⟨xv, rfl, hk, h.bel hb, But.of_bel hb⟩
theorem word_b {N bb m : Nat} {l : List Int} {w : World} (h : Bst N bb m l w) (s : ByteArray) : Calls Tryz.prog 71 #[.string s] w fun e w' => e = .returned (.int .i64 (wordOf s)) ∧ w = w' := word_any w s h.tok
end Go.Proofs.YtkkgfgllfbahlaaGreatFmt

namespace Go.Proofs.YtkkgfgllfbahlaaGreatFmt
open Go Go.RowKit
set_option linter.unusedSimpArgs false

def EPost (N bb m : Nat) (r : BR) (w : World) (e : Ending) (w' : World) : Prop :=
  ∃ v, e = .returned v ∧ At (In w.heap.size w'.heap.size) w' r.1 v ∧ Bst N bb m r.2 w' ∧ But bb w w'
/-- The builder's expr answers on this node. -/
def ExprOK (n : Nd) : Prop := ∀ (kv : Value) (w : World) (N bb m : Nat) (l : List Int), NdK N w n kv → Bst N bb m l w →
  Calls Tryz.prog 68 #[.pointer (some ⟨bb, 0, none⟩), .agg #[.string n.kind, .string n.text, kv]] w (EPost N bb m (bE n l) w)
def PPost (ty N bb m : Nat) (r : BR) (w : World) (e : Ending) (w' : World) : Prop :=
  ∃ p, e = .returned (.pointer (some ⟨p, 0, none⟩)) ∧ At (In w.heap.size w'.heap.size) w' r.1 (.iface ty (.pointer (some ⟨p, 0, none⟩))) ∧ Bst N bb m r.2 w' ∧ But bb w w'

set_option maxRecDepth 100000 in
set_option maxHeartbeats 2000000 in
theorem ident_b {N bb m : Nat} {l : List Int} {w : World} (hs0 : Bst N bb m l w) (t : ByteArray) :
    Calls Tryz.prog 74 #[.pointer (some ⟨bb, 0, none⟩), .string t] w (PPost 85 N bb m (mkName l t) w) := by
  have hN1 := hs0.hN
  have hN2 := hs0.hb
  have hN3 := hs0.hm
  have z0 := hs0.sz
  go_enter Tryz.func74, Tryz.ntmps74
  go_wp2_with fail
  refine (next_any (N := N) (m := m) (by repeat (first | with_reducible assumption | with_reducible apply Bst.alloc | with_reducible apply Bst.drew | with_reducible apply Bst.drewN | (with_reducible apply Bst.set1; rotate_left; (first | omega | (simp only [World.size_alloc, World.size_setCell, size_drewN, World.size_drew] <;> omega)))))).mono ?_
  rintro e w1 ⟨rfl, hs1, hb1⟩
  have z1 := hb1.le
  try simp only [World.size_alloc, World.size_setCell, size_drewN, World.size_drew] at z1
  go_wp2_with fail
  go_ret
  unfold PPost mkName
  dsimp only
  refine ⟨_, rfl, ?_, (by repeat (first | with_reducible assumption | with_reducible apply Bst.alloc | with_reducible apply Bst.drew | with_reducible apply Bst.drewN | (with_reducible apply Bst.set1; rotate_left; (first | omega | (simp only [World.size_alloc, World.size_setCell, size_drewN, World.size_drew] <;> omega))))), (by repeat (first | with_reducible exact But.refl _ _ | with_reducible refine But.alloc ?_ _ | (with_reducible refine But.set1 ?_ ?_ _ _; rotate_left; (first | omega | (simp only [World.size_alloc, World.size_setCell, size_drewN, World.size_drew] <;> omega))) | with_reducible refine But.drew ?_ | with_reducible refine But.drewN ?_ _ | with_reducible refine But.trans ?_ (by assumption)))⟩
  exact At_ident.2 ⟨w1.heap.size, rfl, ⟨by (first | omega | (simp only [World.size_alloc, World.size_setCell, size_drewN, World.size_drew] <;> omega)), by (first | omega | (simp only [World.size_alloc, World.size_setCell, size_drewN, World.size_drew] <;> omega))⟩, by go_cell, by go_cell, by go_cell⟩

set_option maxRecDepth 100000 in
set_option maxHeartbeats 2000000 in
theorem expr_name (t : ByteArray) : ExprOK (.mk ⟨#[110, 97, 109, 101]⟩ t []) := by
  intro kv w N bb m l hn hs0
  obtain ⟨a, cap, hv, -, -⟩ := hn.slice
  subst hv
  have hN1 := hs0.hN
  have hN2 := hs0.hb
  have hN3 := hs0.hm
  have z0 := hs0.sz
  have HV := hide (show bE (.mk ⟨#[110, 97, 109, 101]⟩ t []) l = mkName l t by simp [bE])
  simp only [Nd.kids_mk, Nd.kind_mk, Nd.text_mk, List.length_cons, List.length_nil] at hn ⊢
  go_enter Tryz.func68, Tryz.ntmps68
  go_wp2_with fail
  refine (ident_b (N := N) (m := m) (by repeat (first | with_reducible assumption | with_reducible apply Bst.alloc | with_reducible apply Bst.drew | with_reducible apply Bst.drewN | (with_reducible apply Bst.set1; rotate_left; (first | omega | (simp only [World.size_alloc, World.size_setCell, size_drewN, World.size_drew] <;> omega))))) _).mono ?_
  rintro e w1 ⟨p1, rfl, ha1, hs1, hb1⟩
  dsimp only [mkName] at ha1 hs1
  have z1 := hb1.le
  try simp only [World.size_alloc, World.size_setCell, size_drewN, World.size_drew] at z1
  obtain ⟨c1_0, f1_0, l1_0, n1_0, m1_0⟩ := hb1.facts (b := w.heap.size) (by (first | omega | (simp only [World.size_alloc, World.size_setCell, size_drewN, World.size_drew] <;> omega))) (by (first | omega | (simp only [World.size_alloc, World.size_setCell, size_drewN, World.size_drew] <;> omega)))
  go_wp2_with fail
  go_ret
  unfold EPost
  rw [HV.out]
  unfold mkName
  dsimp only
  refine ⟨_, rfl, ?_, (by repeat (first | with_reducible assumption | with_reducible apply Bst.alloc | with_reducible apply Bst.drew | with_reducible apply Bst.drewN | (with_reducible apply Bst.set1; rotate_left; (first | omega | (simp only [World.size_alloc, World.size_setCell, size_drewN, World.size_drew] <;> omega))))), (by repeat (first | with_reducible exact But.refl _ _ | with_reducible refine But.alloc ?_ _ | (with_reducible refine But.set1 ?_ ?_ _ _; rotate_left; (first | omega | (simp only [World.size_alloc, World.size_setCell, size_drewN, World.size_drew] <;> omega))) | with_reducible refine But.drew ?_ | with_reducible refine But.drewN ?_ _ | with_reducible refine But.trans ?_ (by assumption)))⟩
  exact ha1.wide (by repeat (first | with_reducible exact MidI.refl _ _ _ | (with_reducible refine MidI.alloc ?_ ?_ _; rotate_left; (first | omega | (simp only [World.size_alloc, World.size_setCell, size_drewN, World.size_drew] <;> omega))) | (with_reducible refine MidI.set1 ?_ ?_ _ _; rotate_left; (first | omega | (simp only [World.size_alloc, World.size_setCell, size_drewN, World.size_drew] <;> omega))) | with_reducible refine MidI.drew ?_ | with_reducible refine MidI.drewN ?_ _ | (with_reducible refine MidI.but ?_ (by assumption) ?_ ?_; rotate_left; (first | omega | (simp only [World.size_alloc, World.size_setCell, size_drewN, World.size_drew] <;> omega)); (first | omega | (simp only [World.size_alloc, World.size_setCell, size_drewN, World.size_drew] <;> omega))))) (by (first | omega | (simp only [World.size_alloc, World.size_setCell, size_drewN, World.size_drew] <;> omega))) (by (first | omega | (simp only [World.size_alloc, World.size_setCell, size_drewN, World.size_drew] <;> omega)))

set_option maxRecDepth 100000 in
set_option maxHeartbeats 2000000 in
theorem expr_literal (t : ByteArray) : ExprOK (.mk ⟨#[108, 105, 116, 101, 114, 97, 108]⟩ t []) := by
  intro kv w N bb m l hn hs0
  obtain ⟨a, cap, hv, -, -⟩ := hn.slice
  subst hv
  have hN1 := hs0.hN
  have hN2 := hs0.hb
  have hN3 := hs0.hm
  have z0 := hs0.sz
  have HV := hide (show bE (.mk ⟨#[108, 105, 116, 101, 114, 97, 108]⟩ t []) l = mkLit l t by simp [bE])
  simp only [Nd.kids_mk, Nd.kind_mk, Nd.text_mk, List.length_cons, List.length_nil] at hn ⊢
  go_enter Tryz.func68, Tryz.ntmps68
  go_wp2_with fail
  refine (next_any (N := N) (m := m) (by repeat (first | with_reducible assumption | with_reducible apply Bst.alloc | with_reducible apply Bst.drew | with_reducible apply Bst.drewN | (with_reducible apply Bst.set1; rotate_left; (first | omega | (simp only [World.size_alloc, World.size_setCell, size_drewN, World.size_drew] <;> omega)))))).mono ?_
  rintro e w1 ⟨rfl, hs1, hb1⟩
  have z1 := hb1.le
  try simp only [World.size_alloc, World.size_setCell, size_drewN, World.size_drew] at z1
  obtain ⟨c1_0, f1_0, l1_0, n1_0, m1_0⟩ := hb1.facts (b := w.heap.size) (by (first | omega | (simp only [World.size_alloc, World.size_setCell, size_drewN, World.size_drew] <;> omega))) (by (first | omega | (simp only [World.size_alloc, World.size_setCell, size_drewN, World.size_drew] <;> omega)))
  go_wp2_with fail
  go_ret
  unfold EPost
  rw [HV.out]
  unfold mkLit
  dsimp only
  refine ⟨_, rfl, ?_, (by repeat (first | with_reducible assumption | with_reducible apply Bst.alloc | with_reducible apply Bst.drew | with_reducible apply Bst.drewN | (with_reducible apply Bst.set1; rotate_left; (first | omega | (simp only [World.size_alloc, World.size_setCell, size_drewN, World.size_drew] <;> omega))))), (by repeat (first | with_reducible exact But.refl _ _ | with_reducible refine But.alloc ?_ _ | (with_reducible refine But.set1 ?_ ?_ _ _; rotate_left; (first | omega | (simp only [World.size_alloc, World.size_setCell, size_drewN, World.size_drew] <;> omega))) | with_reducible refine But.drew ?_ | with_reducible refine But.drewN ?_ _ | with_reducible refine But.trans ?_ (by assumption)))⟩
  exact At_lit.2 ⟨w1.heap.size, rfl, ⟨by (first | omega | (simp only [World.size_alloc, World.size_setCell, size_drewN, World.size_drew] <;> omega)), by (first | omega | (simp only [World.size_alloc, World.size_setCell, size_drewN, World.size_drew] <;> omega))⟩, by go_cell, by go_cell, by go_cell, by go_cell⟩

set_option maxRecDepth 100000 in
set_option maxHeartbeats 2000000 in
theorem expr_paren (t : ByteArray) (x : Nd) (hx : ExprOK x) : ExprOK (.mk ⟨#[112, 97, 114, 101, 110]⟩ t [x]) := by
  intro kv w N bb m l hn hs0
  obtain ⟨a, cap, hv, -, -⟩ := hn.slice
  subst hv
  have hN1 := hs0.hN
  have hN2 := hs0.hb
  have hN3 := hs0.hm
  have z0 := hs0.sz
  have HV := hide (show bE (.mk ⟨#[112, 97, 114, 101, 110]⟩ t [x]) l = mkParen l (bE x l.tail) by simp [bE])
  have Hx := hide hx
  clear hx
  simp only [Nd.kids_mk, Nd.kind_mk, Nd.text_mk, List.length_cons, List.length_nil] at hn ⊢
  go_enter Tryz.func68, Tryz.ntmps68
  go_wp2_with fail
  refine (next_any (N := N) (m := m) (by repeat (first | with_reducible assumption | with_reducible apply Bst.alloc | with_reducible apply Bst.drew | with_reducible apply Bst.drewN | (with_reducible apply Bst.set1; rotate_left; (first | omega | (simp only [World.size_alloc, World.size_setCell, size_drewN, World.size_drew] <;> omega)))))).mono ?_
  rintro e w1 ⟨rfl, hs1, hb1⟩
  have z1 := hb1.le
  try simp only [World.size_alloc, World.size_setCell, size_drewN, World.size_drew] at z1
  obtain ⟨c1_0, f1_0, l1_0, n1_0, m1_0⟩ := hb1.facts (b := w.heap.size) (by (first | omega | (simp only [World.size_alloc, World.size_setCell, size_drewN, World.size_drew] <;> omega))) (by (first | omega | (simp only [World.size_alloc, World.size_setCell, size_drewN, World.size_drew] <;> omega)))
  go_wp2_with fail
  refine (kid_b (N := N) (m := m) (by repeat (first | with_reducible assumption | with_reducible apply Bst.alloc | with_reducible apply Bst.drew | with_reducible apply Bst.drewN | (with_reducible apply Bst.set1; rotate_left; (first | omega | (simp only [World.size_alloc, World.size_setCell, size_drewN, World.size_drew] <;> omega))))) (NdK.stay (Nat.le_refl _) (But.same (lb := bb) (by repeat (first | with_reducible exact But.refl _ _ | with_reducible refine But.alloc ?_ _ | (with_reducible refine But.set1 ?_ ?_ _ _; rotate_left; (first | omega | (simp only [World.size_alloc, World.size_setCell, size_drewN, World.size_drew] <;> omega))) | with_reducible refine But.drew ?_ | with_reducible refine But.drewN ?_ _ | with_reducible refine But.trans ?_ (by assumption))) (by (first | omega | (simp only [World.size_alloc, World.size_setCell, size_drewN, World.size_drew] <;> omega))) (by (first | omega | (simp only [World.size_alloc, World.size_setCell, size_drewN, World.size_drew] <;> omega)))) _ _ hn) 0 x rfl).mono ?_
  rintro e w2 ⟨kv2, rfl, hk2, hs2, hb2⟩
  have z2 := hb2.le
  try simp only [World.size_alloc, World.size_setCell, size_drewN, World.size_drew] at z2
  obtain ⟨c2_0, f2_0, l2_0, n2_0, m2_0⟩ := hb2.facts (b := w.heap.size) (by (first | omega | (simp only [World.size_alloc, World.size_setCell, size_drewN, World.size_drew] <;> omega))) (by (first | omega | (simp only [World.size_alloc, World.size_setCell, size_drewN, World.size_drew] <;> omega)))
  obtain ⟨c2_1, f2_1, l2_1, n2_1, m2_1⟩ := hb2.facts (b := w1.heap.size) (by (first | omega | (simp only [World.size_alloc, World.size_setCell, size_drewN, World.size_drew] <;> omega))) (by (first | omega | (simp only [World.size_alloc, World.size_setCell, size_drewN, World.size_drew] <;> omega)))
  go_wp2_with fail
  refine (Hx.out _ _ N bb m _ hk2 (by repeat (first | with_reducible assumption | with_reducible apply Bst.alloc | with_reducible apply Bst.drew | with_reducible apply Bst.drewN | (with_reducible apply Bst.set1; rotate_left; (first | omega | (simp only [World.size_alloc, World.size_setCell, size_drewN, World.size_drew] <;> omega)))))).mono ?_
  rintro e w3 ⟨v3, rfl, ha3, hs3, hb3⟩
  obtain ⟨p3, rfl, hp3⟩ := ha3.ptr
  have z3 := hb3.le
  try simp only [World.size_alloc, World.size_setCell, size_drewN, World.size_drew] at z3
  obtain ⟨c3_0, f3_0, l3_0, n3_0, m3_0⟩ := hb3.facts (b := w.heap.size) (by (first | omega | (simp only [World.size_alloc, World.size_setCell, size_drewN, World.size_drew] <;> omega))) (by (first | omega | (simp only [World.size_alloc, World.size_setCell, size_drewN, World.size_drew] <;> omega)))
  obtain ⟨c3_1, f3_1, l3_1, n3_1, m3_1⟩ := hb3.facts (b := w1.heap.size) (by (first | omega | (simp only [World.size_alloc, World.size_setCell, size_drewN, World.size_drew] <;> omega))) (by (first | omega | (simp only [World.size_alloc, World.size_setCell, size_drewN, World.size_drew] <;> omega)))
  go_wp2_with fail
  refine (next_any (N := N) (m := m) (by repeat (first | with_reducible assumption | with_reducible apply Bst.alloc | with_reducible apply Bst.drew | with_reducible apply Bst.drewN | (with_reducible apply Bst.set1; rotate_left; (first | omega | (simp only [World.size_alloc, World.size_setCell, size_drewN, World.size_drew] <;> omega)))))).mono ?_
  rintro e w4 ⟨rfl, hs4, hb4⟩
  have z4 := hb4.le
  try simp only [World.size_alloc, World.size_setCell, size_drewN, World.size_drew] at z4
  obtain ⟨c4_0, f4_0, l4_0, n4_0, m4_0⟩ := hb4.facts (b := w.heap.size) (by (first | omega | (simp only [World.size_alloc, World.size_setCell, size_drewN, World.size_drew] <;> omega))) (by (first | omega | (simp only [World.size_alloc, World.size_setCell, size_drewN, World.size_drew] <;> omega)))
  obtain ⟨c4_1, f4_1, l4_1, n4_1, m4_1⟩ := hb4.facts (b := w1.heap.size) (by (first | omega | (simp only [World.size_alloc, World.size_setCell, size_drewN, World.size_drew] <;> omega))) (by (first | omega | (simp only [World.size_alloc, World.size_setCell, size_drewN, World.size_drew] <;> omega)))
  go_wp2_with fail
  go_ret
  unfold EPost
  rw [HV.out]
  unfold mkParen
  dsimp only
  refine ⟨_, rfl, ?_, (by repeat (first | with_reducible assumption | with_reducible apply Bst.alloc | with_reducible apply Bst.drew | with_reducible apply Bst.drewN | (with_reducible apply Bst.set1; rotate_left; (first | omega | (simp only [World.size_alloc, World.size_setCell, size_drewN, World.size_drew] <;> omega))))), (by repeat (first | with_reducible exact But.refl _ _ | with_reducible refine But.alloc ?_ _ | (with_reducible refine But.set1 ?_ ?_ _ _; rotate_left; (first | omega | (simp only [World.size_alloc, World.size_setCell, size_drewN, World.size_drew] <;> omega))) | with_reducible refine But.drew ?_ | with_reducible refine But.drewN ?_ _ | with_reducible refine But.trans ?_ (by assumption)))⟩
  exact At_paren.2 ⟨w1.heap.size, rfl, ⟨by (first | omega | (simp only [World.size_alloc, World.size_setCell, size_drewN, World.size_drew] <;> omega)), by (first | omega | (simp only [World.size_alloc, World.size_setCell, size_drewN, World.size_drew] <;> omega))⟩, _, by go_cell, by go_cell, ha3.wide (by repeat (first | with_reducible exact MidI.refl _ _ _ | (with_reducible refine MidI.alloc ?_ ?_ _; rotate_left; (first | omega | (simp only [World.size_alloc, World.size_setCell, size_drewN, World.size_drew] <;> omega))) | (with_reducible refine MidI.set1 ?_ ?_ _ _; rotate_left; (first | omega | (simp only [World.size_alloc, World.size_setCell, size_drewN, World.size_drew] <;> omega))) | with_reducible refine MidI.drew ?_ | with_reducible refine MidI.drewN ?_ _ | (with_reducible refine MidI.but ?_ (by assumption) ?_ ?_; rotate_left; (first | omega | (simp only [World.size_alloc, World.size_setCell, size_drewN, World.size_drew] <;> omega)); (first | omega | (simp only [World.size_alloc, World.size_setCell, size_drewN, World.size_drew] <;> omega))))) (by (first | omega | (simp only [World.size_alloc, World.size_setCell, size_drewN, World.size_drew] <;> omega))) (by (first | omega | (simp only [World.size_alloc, World.size_setCell, size_drewN, World.size_drew] <;> omega))), by go_cell⟩

set_option maxRecDepth 100000 in
set_option maxHeartbeats 2000000 in
theorem expr_select (t : ByteArray) (x : Nd) (hx : ExprOK x) : ExprOK (.mk ⟨#[115, 101, 108, 101, 99, 116]⟩ t [x]) := by
  intro kv w N bb m l hn hs0
  obtain ⟨a, cap, hv, -, -⟩ := hn.slice
  subst hv
  have hN1 := hs0.hN
  have hN2 := hs0.hb
  have hN3 := hs0.hm
  have z0 := hs0.sz
  have HV := hide (show bE (.mk ⟨#[115, 101, 108, 101, 99, 116]⟩ t [x]) l = mkSel (bE x l) t by simp [bE])
  have Hx := hide hx
  clear hx
  simp only [Nd.kids_mk, Nd.kind_mk, Nd.text_mk, List.length_cons, List.length_nil] at hn ⊢
  go_enter Tryz.func68, Tryz.ntmps68
  go_wp2_with fail
  refine (kid_b (N := N) (m := m) (by repeat (first | with_reducible assumption | with_reducible apply Bst.alloc | with_reducible apply Bst.drew | with_reducible apply Bst.drewN | (with_reducible apply Bst.set1; rotate_left; (first | omega | (simp only [World.size_alloc, World.size_setCell, size_drewN, World.size_drew] <;> omega))))) (NdK.stay (Nat.le_refl _) (But.same (lb := bb) (by repeat (first | with_reducible exact But.refl _ _ | with_reducible refine But.alloc ?_ _ | (with_reducible refine But.set1 ?_ ?_ _ _; rotate_left; (first | omega | (simp only [World.size_alloc, World.size_setCell, size_drewN, World.size_drew] <;> omega))) | with_reducible refine But.drew ?_ | with_reducible refine But.drewN ?_ _ | with_reducible refine But.trans ?_ (by assumption))) (by (first | omega | (simp only [World.size_alloc, World.size_setCell, size_drewN, World.size_drew] <;> omega))) (by (first | omega | (simp only [World.size_alloc, World.size_setCell, size_drewN, World.size_drew] <;> omega)))) _ _ hn) 0 x rfl).mono ?_
  rintro e w1 ⟨kv1, rfl, hk1, hs1, hb1⟩
  have z1 := hb1.le
  try simp only [World.size_alloc, World.size_setCell, size_drewN, World.size_drew] at z1
  obtain ⟨c1_0, f1_0, l1_0, n1_0, m1_0⟩ := hb1.facts (b := w.heap.size) (by (first | omega | (simp only [World.size_alloc, World.size_setCell, size_drewN, World.size_drew] <;> omega))) (by (first | omega | (simp only [World.size_alloc, World.size_setCell, size_drewN, World.size_drew] <;> omega)))
  go_wp2_with fail
  refine (Hx.out _ _ N bb m _ hk1 (by repeat (first | with_reducible assumption | with_reducible apply Bst.alloc | with_reducible apply Bst.drew | with_reducible apply Bst.drewN | (with_reducible apply Bst.set1; rotate_left; (first | omega | (simp only [World.size_alloc, World.size_setCell, size_drewN, World.size_drew] <;> omega)))))).mono ?_
  rintro e w2 ⟨v2, rfl, ha2, hs2, hb2⟩
  obtain ⟨p2, rfl, hp2⟩ := ha2.ptr
  have z2 := hb2.le
  try simp only [World.size_alloc, World.size_setCell, size_drewN, World.size_drew] at z2
  obtain ⟨c2_0, f2_0, l2_0, n2_0, m2_0⟩ := hb2.facts (b := w.heap.size) (by (first | omega | (simp only [World.size_alloc, World.size_setCell, size_drewN, World.size_drew] <;> omega))) (by (first | omega | (simp only [World.size_alloc, World.size_setCell, size_drewN, World.size_drew] <;> omega)))
  go_wp2_with fail
  refine (next_any (N := N) (m := m) (by repeat (first | with_reducible assumption | with_reducible apply Bst.alloc | with_reducible apply Bst.drew | with_reducible apply Bst.drewN | (with_reducible apply Bst.set1; rotate_left; (first | omega | (simp only [World.size_alloc, World.size_setCell, size_drewN, World.size_drew] <;> omega)))))).mono ?_
  rintro e w3 ⟨rfl, hs3, hb3⟩
  have z3 := hb3.le
  try simp only [World.size_alloc, World.size_setCell, size_drewN, World.size_drew] at z3
  obtain ⟨c3_0, f3_0, l3_0, n3_0, m3_0⟩ := hb3.facts (b := w.heap.size) (by (first | omega | (simp only [World.size_alloc, World.size_setCell, size_drewN, World.size_drew] <;> omega))) (by (first | omega | (simp only [World.size_alloc, World.size_setCell, size_drewN, World.size_drew] <;> omega)))
  obtain ⟨c3_1, f3_1, l3_1, n3_1, m3_1⟩ := hb3.facts (b := w2.heap.size) (by (first | omega | (simp only [World.size_alloc, World.size_setCell, size_drewN, World.size_drew] <;> omega))) (by (first | omega | (simp only [World.size_alloc, World.size_setCell, size_drewN, World.size_drew] <;> omega)))
  go_wp2_with fail
  refine (ident_b (N := N) (m := m) (by repeat (first | with_reducible assumption | with_reducible apply Bst.alloc | with_reducible apply Bst.drew | with_reducible apply Bst.drewN | (with_reducible apply Bst.set1; rotate_left; (first | omega | (simp only [World.size_alloc, World.size_setCell, size_drewN, World.size_drew] <;> omega))))) _).mono ?_
  rintro e w4 ⟨p4, rfl, ha4, hs4, hb4⟩
  dsimp only [mkName] at ha4 hs4
  have z4 := hb4.le
  try simp only [World.size_alloc, World.size_setCell, size_drewN, World.size_drew] at z4
  obtain ⟨c4_0, f4_0, l4_0, n4_0, m4_0⟩ := hb4.facts (b := w.heap.size) (by (first | omega | (simp only [World.size_alloc, World.size_setCell, size_drewN, World.size_drew] <;> omega))) (by (first | omega | (simp only [World.size_alloc, World.size_setCell, size_drewN, World.size_drew] <;> omega)))
  obtain ⟨c4_1, f4_1, l4_1, n4_1, m4_1⟩ := hb4.facts (b := w2.heap.size) (by (first | omega | (simp only [World.size_alloc, World.size_setCell, size_drewN, World.size_drew] <;> omega))) (by (first | omega | (simp only [World.size_alloc, World.size_setCell, size_drewN, World.size_drew] <;> omega)))
  go_wp2_with fail
  go_ret
  unfold EPost
  rw [HV.out]
  unfold mkSel
  dsimp only
  refine ⟨_, rfl, ?_, (by repeat (first | with_reducible assumption | with_reducible apply Bst.alloc | with_reducible apply Bst.drew | with_reducible apply Bst.drewN | (with_reducible apply Bst.set1; rotate_left; (first | omega | (simp only [World.size_alloc, World.size_setCell, size_drewN, World.size_drew] <;> omega))))), (by repeat (first | with_reducible exact But.refl _ _ | with_reducible refine But.alloc ?_ _ | (with_reducible refine But.set1 ?_ ?_ _ _; rotate_left; (first | omega | (simp only [World.size_alloc, World.size_setCell, size_drewN, World.size_drew] <;> omega))) | with_reducible refine But.drew ?_ | with_reducible refine But.drewN ?_ _ | with_reducible refine But.trans ?_ (by assumption)))⟩
  exact At_sel.2 ⟨w2.heap.size, rfl, ⟨by (first | omega | (simp only [World.size_alloc, World.size_setCell, size_drewN, World.size_drew] <;> omega)), by (first | omega | (simp only [World.size_alloc, World.size_setCell, size_drewN, World.size_drew] <;> omega))⟩, _, _, by go_cell, ha2.wide (by repeat (first | with_reducible exact MidI.refl _ _ _ | (with_reducible refine MidI.alloc ?_ ?_ _; rotate_left; (first | omega | (simp only [World.size_alloc, World.size_setCell, size_drewN, World.size_drew] <;> omega))) | (with_reducible refine MidI.set1 ?_ ?_ _ _; rotate_left; (first | omega | (simp only [World.size_alloc, World.size_setCell, size_drewN, World.size_drew] <;> omega))) | with_reducible refine MidI.drew ?_ | with_reducible refine MidI.drewN ?_ _ | (with_reducible refine MidI.but ?_ (by assumption) ?_ ?_; rotate_left; (first | omega | (simp only [World.size_alloc, World.size_setCell, size_drewN, World.size_drew] <;> omega)); (first | omega | (simp only [World.size_alloc, World.size_setCell, size_drewN, World.size_drew] <;> omega))))) (by (first | omega | (simp only [World.size_alloc, World.size_setCell, size_drewN, World.size_drew] <;> omega))) (by (first | omega | (simp only [World.size_alloc, World.size_setCell, size_drewN, World.size_drew] <;> omega))), by go_cell, ha4.wide (by repeat (first | with_reducible exact MidI.refl _ _ _ | (with_reducible refine MidI.alloc ?_ ?_ _; rotate_left; (first | omega | (simp only [World.size_alloc, World.size_setCell, size_drewN, World.size_drew] <;> omega))) | (with_reducible refine MidI.set1 ?_ ?_ _ _; rotate_left; (first | omega | (simp only [World.size_alloc, World.size_setCell, size_drewN, World.size_drew] <;> omega))) | with_reducible refine MidI.drew ?_ | with_reducible refine MidI.drewN ?_ _ | (with_reducible refine MidI.but ?_ (by assumption) ?_ ?_; rotate_left; (first | omega | (simp only [World.size_alloc, World.size_setCell, size_drewN, World.size_drew] <;> omega)); (first | omega | (simp only [World.size_alloc, World.size_setCell, size_drewN, World.size_drew] <;> omega))))) (by (first | omega | (simp only [World.size_alloc, World.size_setCell, size_drewN, World.size_drew] <;> omega))) (by (first | omega | (simp only [World.size_alloc, World.size_setCell, size_drewN, World.size_drew] <;> omega)))⟩

set_option maxRecDepth 100000 in
set_option maxHeartbeats 2000000 in
theorem expr_index (t : ByteArray) (x : Nd) (y : Nd) (hx : ExprOK x) (hy : ExprOK y) : ExprOK (.mk ⟨#[105, 110, 100, 101, 120]⟩ t [x, y]) := by
  intro kv w N bb m l hn hs0
  obtain ⟨a, cap, hv, -, -⟩ := hn.slice
  subst hv
  have hN1 := hs0.hN
  have hN2 := hs0.hb
  have hN3 := hs0.hm
  have z0 := hs0.sz
  have HV := hide (show bE (.mk ⟨#[105, 110, 100, 101, 120]⟩ t [x, y]) l = mkIndex (bE x l) (bE y (bE x l).2.tail) by simp [bE])
  have Hx := hide hx
  clear hx
  have Hy := hide hy
  clear hy
  simp only [Nd.kids_mk, Nd.kind_mk, Nd.text_mk, List.length_cons, List.length_nil] at hn ⊢
  go_enter Tryz.func68, Tryz.ntmps68
  go_wp2_with fail
  refine (kid_b (N := N) (m := m) (by repeat (first | with_reducible assumption | with_reducible apply Bst.alloc | with_reducible apply Bst.drew | with_reducible apply Bst.drewN | (with_reducible apply Bst.set1; rotate_left; (first | omega | (simp only [World.size_alloc, World.size_setCell, size_drewN, World.size_drew] <;> omega))))) (NdK.stay (Nat.le_refl _) (But.same (lb := bb) (by repeat (first | with_reducible exact But.refl _ _ | with_reducible refine But.alloc ?_ _ | (with_reducible refine But.set1 ?_ ?_ _ _; rotate_left; (first | omega | (simp only [World.size_alloc, World.size_setCell, size_drewN, World.size_drew] <;> omega))) | with_reducible refine But.drew ?_ | with_reducible refine But.drewN ?_ _ | with_reducible refine But.trans ?_ (by assumption))) (by (first | omega | (simp only [World.size_alloc, World.size_setCell, size_drewN, World.size_drew] <;> omega))) (by (first | omega | (simp only [World.size_alloc, World.size_setCell, size_drewN, World.size_drew] <;> omega)))) _ _ hn) 0 x rfl).mono ?_
  rintro e w1 ⟨kv1, rfl, hk1, hs1, hb1⟩
  have z1 := hb1.le
  try simp only [World.size_alloc, World.size_setCell, size_drewN, World.size_drew] at z1
  obtain ⟨c1_0, f1_0, l1_0, n1_0, m1_0⟩ := hb1.facts (b := w.heap.size) (by (first | omega | (simp only [World.size_alloc, World.size_setCell, size_drewN, World.size_drew] <;> omega))) (by (first | omega | (simp only [World.size_alloc, World.size_setCell, size_drewN, World.size_drew] <;> omega)))
  go_wp2_with fail
  refine (Hx.out _ _ N bb m _ hk1 (by repeat (first | with_reducible assumption | with_reducible apply Bst.alloc | with_reducible apply Bst.drew | with_reducible apply Bst.drewN | (with_reducible apply Bst.set1; rotate_left; (first | omega | (simp only [World.size_alloc, World.size_setCell, size_drewN, World.size_drew] <;> omega)))))).mono ?_
  rintro e w2 ⟨v2, rfl, ha2, hs2, hb2⟩
  obtain ⟨p2, rfl, hp2⟩ := ha2.ptr
  have z2 := hb2.le
  try simp only [World.size_alloc, World.size_setCell, size_drewN, World.size_drew] at z2
  obtain ⟨c2_0, f2_0, l2_0, n2_0, m2_0⟩ := hb2.facts (b := w.heap.size) (by (first | omega | (simp only [World.size_alloc, World.size_setCell, size_drewN, World.size_drew] <;> omega))) (by (first | omega | (simp only [World.size_alloc, World.size_setCell, size_drewN, World.size_drew] <;> omega)))
  go_wp2_with fail
  refine (next_any (N := N) (m := m) (by repeat (first | with_reducible assumption | with_reducible apply Bst.alloc | with_reducible apply Bst.drew | with_reducible apply Bst.drewN | (with_reducible apply Bst.set1; rotate_left; (first | omega | (simp only [World.size_alloc, World.size_setCell, size_drewN, World.size_drew] <;> omega)))))).mono ?_
  rintro e w3 ⟨rfl, hs3, hb3⟩
  have z3 := hb3.le
  try simp only [World.size_alloc, World.size_setCell, size_drewN, World.size_drew] at z3
  obtain ⟨c3_0, f3_0, l3_0, n3_0, m3_0⟩ := hb3.facts (b := w.heap.size) (by (first | omega | (simp only [World.size_alloc, World.size_setCell, size_drewN, World.size_drew] <;> omega))) (by (first | omega | (simp only [World.size_alloc, World.size_setCell, size_drewN, World.size_drew] <;> omega)))
  go_wp2_with fail
  refine (kid_b (N := N) (m := m) (by repeat (first | with_reducible assumption | with_reducible apply Bst.alloc | with_reducible apply Bst.drew | with_reducible apply Bst.drewN | (with_reducible apply Bst.set1; rotate_left; (first | omega | (simp only [World.size_alloc, World.size_setCell, size_drewN, World.size_drew] <;> omega))))) (NdK.stay (Nat.le_refl _) (But.same (lb := bb) (by repeat (first | with_reducible exact But.refl _ _ | with_reducible refine But.alloc ?_ _ | (with_reducible refine But.set1 ?_ ?_ _ _; rotate_left; (first | omega | (simp only [World.size_alloc, World.size_setCell, size_drewN, World.size_drew] <;> omega))) | with_reducible refine But.drew ?_ | with_reducible refine But.drewN ?_ _ | with_reducible refine But.trans ?_ (by assumption))) (by (first | omega | (simp only [World.size_alloc, World.size_setCell, size_drewN, World.size_drew] <;> omega))) (by (first | omega | (simp only [World.size_alloc, World.size_setCell, size_drewN, World.size_drew] <;> omega)))) _ _ hn) 1 y rfl).mono ?_
  rintro e w4 ⟨kv4, rfl, hk4, hs4, hb4⟩
  have z4 := hb4.le
  try simp only [World.size_alloc, World.size_setCell, size_drewN, World.size_drew] at z4
  obtain ⟨c4_0, f4_0, l4_0, n4_0, m4_0⟩ := hb4.facts (b := w.heap.size) (by (first | omega | (simp only [World.size_alloc, World.size_setCell, size_drewN, World.size_drew] <;> omega))) (by (first | omega | (simp only [World.size_alloc, World.size_setCell, size_drewN, World.size_drew] <;> omega)))
  obtain ⟨c4_1, f4_1, l4_1, n4_1, m4_1⟩ := hb4.facts (b := w3.heap.size) (by (first | omega | (simp only [World.size_alloc, World.size_setCell, size_drewN, World.size_drew] <;> omega))) (by (first | omega | (simp only [World.size_alloc, World.size_setCell, size_drewN, World.size_drew] <;> omega)))
  go_wp2_with fail
  refine (Hy.out _ _ N bb m _ hk4 (by repeat (first | with_reducible assumption | with_reducible apply Bst.alloc | with_reducible apply Bst.drew | with_reducible apply Bst.drewN | (with_reducible apply Bst.set1; rotate_left; (first | omega | (simp only [World.size_alloc, World.size_setCell, size_drewN, World.size_drew] <;> omega)))))).mono ?_
  rintro e w5 ⟨v5, rfl, ha5, hs5, hb5⟩
  obtain ⟨p5, rfl, hp5⟩ := ha5.ptr
  have z5 := hb5.le
  try simp only [World.size_alloc, World.size_setCell, size_drewN, World.size_drew] at z5
  obtain ⟨c5_0, f5_0, l5_0, n5_0, m5_0⟩ := hb5.facts (b := w.heap.size) (by (first | omega | (simp only [World.size_alloc, World.size_setCell, size_drewN, World.size_drew] <;> omega))) (by (first | omega | (simp only [World.size_alloc, World.size_setCell, size_drewN, World.size_drew] <;> omega)))
  obtain ⟨c5_1, f5_1, l5_1, n5_1, m5_1⟩ := hb5.facts (b := w3.heap.size) (by (first | omega | (simp only [World.size_alloc, World.size_setCell, size_drewN, World.size_drew] <;> omega))) (by (first | omega | (simp only [World.size_alloc, World.size_setCell, size_drewN, World.size_drew] <;> omega)))
  go_wp2_with fail
  refine (next_any (N := N) (m := m) (by repeat (first | with_reducible assumption | with_reducible apply Bst.alloc | with_reducible apply Bst.drew | with_reducible apply Bst.drewN | (with_reducible apply Bst.set1; rotate_left; (first | omega | (simp only [World.size_alloc, World.size_setCell, size_drewN, World.size_drew] <;> omega)))))).mono ?_
  rintro e w6 ⟨rfl, hs6, hb6⟩
  have z6 := hb6.le
  try simp only [World.size_alloc, World.size_setCell, size_drewN, World.size_drew] at z6
  obtain ⟨c6_0, f6_0, l6_0, n6_0, m6_0⟩ := hb6.facts (b := w.heap.size) (by (first | omega | (simp only [World.size_alloc, World.size_setCell, size_drewN, World.size_drew] <;> omega))) (by (first | omega | (simp only [World.size_alloc, World.size_setCell, size_drewN, World.size_drew] <;> omega)))
  obtain ⟨c6_1, f6_1, l6_1, n6_1, m6_1⟩ := hb6.facts (b := w3.heap.size) (by (first | omega | (simp only [World.size_alloc, World.size_setCell, size_drewN, World.size_drew] <;> omega))) (by (first | omega | (simp only [World.size_alloc, World.size_setCell, size_drewN, World.size_drew] <;> omega)))
  go_wp2_with fail
  go_ret
  unfold EPost
  rw [HV.out]
  unfold mkIndex
  dsimp only
  refine ⟨_, rfl, ?_, (by repeat (first | with_reducible assumption | with_reducible apply Bst.alloc | with_reducible apply Bst.drew | with_reducible apply Bst.drewN | (with_reducible apply Bst.set1; rotate_left; (first | omega | (simp only [World.size_alloc, World.size_setCell, size_drewN, World.size_drew] <;> omega))))), (by repeat (first | with_reducible exact But.refl _ _ | with_reducible refine But.alloc ?_ _ | (with_reducible refine But.set1 ?_ ?_ _ _; rotate_left; (first | omega | (simp only [World.size_alloc, World.size_setCell, size_drewN, World.size_drew] <;> omega))) | with_reducible refine But.drew ?_ | with_reducible refine But.drewN ?_ _ | with_reducible refine But.trans ?_ (by assumption)))⟩
  exact At_index.2 ⟨w3.heap.size, rfl, ⟨by (first | omega | (simp only [World.size_alloc, World.size_setCell, size_drewN, World.size_drew] <;> omega)), by (first | omega | (simp only [World.size_alloc, World.size_setCell, size_drewN, World.size_drew] <;> omega))⟩, _, _, by go_cell, ha2.wide (by repeat (first | with_reducible exact MidI.refl _ _ _ | (with_reducible refine MidI.alloc ?_ ?_ _; rotate_left; (first | omega | (simp only [World.size_alloc, World.size_setCell, size_drewN, World.size_drew] <;> omega))) | (with_reducible refine MidI.set1 ?_ ?_ _ _; rotate_left; (first | omega | (simp only [World.size_alloc, World.size_setCell, size_drewN, World.size_drew] <;> omega))) | with_reducible refine MidI.drew ?_ | with_reducible refine MidI.drewN ?_ _ | (with_reducible refine MidI.but ?_ (by assumption) ?_ ?_; rotate_left; (first | omega | (simp only [World.size_alloc, World.size_setCell, size_drewN, World.size_drew] <;> omega)); (first | omega | (simp only [World.size_alloc, World.size_setCell, size_drewN, World.size_drew] <;> omega))))) (by (first | omega | (simp only [World.size_alloc, World.size_setCell, size_drewN, World.size_drew] <;> omega))) (by (first | omega | (simp only [World.size_alloc, World.size_setCell, size_drewN, World.size_drew] <;> omega))), by go_cell, by go_cell, ha5.wide (by repeat (first | with_reducible exact MidI.refl _ _ _ | (with_reducible refine MidI.alloc ?_ ?_ _; rotate_left; (first | omega | (simp only [World.size_alloc, World.size_setCell, size_drewN, World.size_drew] <;> omega))) | (with_reducible refine MidI.set1 ?_ ?_ _ _; rotate_left; (first | omega | (simp only [World.size_alloc, World.size_setCell, size_drewN, World.size_drew] <;> omega))) | with_reducible refine MidI.drew ?_ | with_reducible refine MidI.drewN ?_ _ | (with_reducible refine MidI.but ?_ (by assumption) ?_ ?_; rotate_left; (first | omega | (simp only [World.size_alloc, World.size_setCell, size_drewN, World.size_drew] <;> omega)); (first | omega | (simp only [World.size_alloc, World.size_setCell, size_drewN, World.size_drew] <;> omega))))) (by (first | omega | (simp only [World.size_alloc, World.size_setCell, size_drewN, World.size_drew] <;> omega))) (by (first | omega | (simp only [World.size_alloc, World.size_setCell, size_drewN, World.size_drew] <;> omega))), by go_cell⟩

set_option maxRecDepth 100000 in
set_option maxHeartbeats 2000000 in
theorem expr_assert (t : ByteArray) (x : Nd) (y : Nd) (hx : ExprOK x) (hy : ExprOK y) (hm : miss y = false) : ExprOK (.mk ⟨#[97, 115, 115, 101, 114, 116]⟩ t [x, y]) := by
  intro kv w N bb m l hn hs0
  obtain ⟨a, cap, hv, -, -⟩ := hn.slice
  subst hv
  have hN1 := hs0.hN
  have hN2 := hs0.hb
  have hN3 := hs0.hm
  have z0 := hs0.sz
  have HV := hide (show bE (.mk ⟨#[97, 115, 115, 101, 114, 116]⟩ t [x, y]) l = mkAsrt (bE x l) (some (bE y (bE x l).2.tail.tail).1) (bE y (bE x l).2.tail.tail).2 by simp [bE, hm])
  have Hx := hide hx
  clear hx
  have Hy := hide hy
  clear hy
  simp only [Nd.kids_mk, Nd.kind_mk, Nd.text_mk, List.length_cons, List.length_nil] at hn ⊢
  go_enter Tryz.func68, Tryz.ntmps68
  go_wp2_with fail
  refine (kid_b (N := N) (m := m) (by repeat (first | with_reducible assumption | with_reducible apply Bst.alloc | with_reducible apply Bst.drew | with_reducible apply Bst.drewN | (with_reducible apply Bst.set1; rotate_left; (first | omega | (simp only [World.size_alloc, World.size_setCell, size_drewN, World.size_drew] <;> omega))))) (NdK.stay (Nat.le_refl _) (But.same (lb := bb) (by repeat (first | with_reducible exact But.refl _ _ | with_reducible refine But.alloc ?_ _ | (with_reducible refine But.set1 ?_ ?_ _ _; rotate_left; (first | omega | (simp only [World.size_alloc, World.size_setCell, size_drewN, World.size_drew] <;> omega))) | with_reducible refine But.drew ?_ | with_reducible refine But.drewN ?_ _ | with_reducible refine But.trans ?_ (by assumption))) (by (first | omega | (simp only [World.size_alloc, World.size_setCell, size_drewN, World.size_drew] <;> omega))) (by (first | omega | (simp only [World.size_alloc, World.size_setCell, size_drewN, World.size_drew] <;> omega)))) _ _ hn) 0 x rfl).mono ?_
  rintro e w1 ⟨kv1, rfl, hk1, hs1, hb1⟩
  have z1 := hb1.le
  try simp only [World.size_alloc, World.size_setCell, size_drewN, World.size_drew] at z1
  obtain ⟨c1_0, f1_0, l1_0, n1_0, m1_0⟩ := hb1.facts (b := w.heap.size) (by (first | omega | (simp only [World.size_alloc, World.size_setCell, size_drewN, World.size_drew] <;> omega))) (by (first | omega | (simp only [World.size_alloc, World.size_setCell, size_drewN, World.size_drew] <;> omega)))
  go_wp2_with fail
  refine (Hx.out _ _ N bb m _ hk1 (by repeat (first | with_reducible assumption | with_reducible apply Bst.alloc | with_reducible apply Bst.drew | with_reducible apply Bst.drewN | (with_reducible apply Bst.set1; rotate_left; (first | omega | (simp only [World.size_alloc, World.size_setCell, size_drewN, World.size_drew] <;> omega)))))).mono ?_
  rintro e w2 ⟨v2, rfl, ha2, hs2, hb2⟩
  obtain ⟨p2, rfl, hp2⟩ := ha2.ptr
  have z2 := hb2.le
  try simp only [World.size_alloc, World.size_setCell, size_drewN, World.size_drew] at z2
  obtain ⟨c2_0, f2_0, l2_0, n2_0, m2_0⟩ := hb2.facts (b := w.heap.size) (by (first | omega | (simp only [World.size_alloc, World.size_setCell, size_drewN, World.size_drew] <;> omega))) (by (first | omega | (simp only [World.size_alloc, World.size_setCell, size_drewN, World.size_drew] <;> omega)))
  go_wp2_with fail
  refine (next_any (N := N) (m := m) (by repeat (first | with_reducible assumption | with_reducible apply Bst.alloc | with_reducible apply Bst.drew | with_reducible apply Bst.drewN | (with_reducible apply Bst.set1; rotate_left; (first | omega | (simp only [World.size_alloc, World.size_setCell, size_drewN, World.size_drew] <;> omega)))))).mono ?_
  rintro e w3 ⟨rfl, hs3, hb3⟩
  have z3 := hb3.le
  try simp only [World.size_alloc, World.size_setCell, size_drewN, World.size_drew] at z3
  obtain ⟨c3_0, f3_0, l3_0, n3_0, m3_0⟩ := hb3.facts (b := w.heap.size) (by (first | omega | (simp only [World.size_alloc, World.size_setCell, size_drewN, World.size_drew] <;> omega))) (by (first | omega | (simp only [World.size_alloc, World.size_setCell, size_drewN, World.size_drew] <;> omega)))
  obtain ⟨c3_1, f3_1, l3_1, n3_1, m3_1⟩ := hb3.facts (b := w2.heap.size) (by (first | omega | (simp only [World.size_alloc, World.size_setCell, size_drewN, World.size_drew] <;> omega))) (by (first | omega | (simp only [World.size_alloc, World.size_setCell, size_drewN, World.size_drew] <;> omega)))
  go_wp2_with fail
  refine (next_any (N := N) (m := m) (by repeat (first | with_reducible assumption | with_reducible apply Bst.alloc | with_reducible apply Bst.drew | with_reducible apply Bst.drewN | (with_reducible apply Bst.set1; rotate_left; (first | omega | (simp only [World.size_alloc, World.size_setCell, size_drewN, World.size_drew] <;> omega)))))).mono ?_
  rintro e w4 ⟨rfl, hs4, hb4⟩
  have z4 := hb4.le
  try simp only [World.size_alloc, World.size_setCell, size_drewN, World.size_drew] at z4
  obtain ⟨c4_0, f4_0, l4_0, n4_0, m4_0⟩ := hb4.facts (b := w.heap.size) (by (first | omega | (simp only [World.size_alloc, World.size_setCell, size_drewN, World.size_drew] <;> omega))) (by (first | omega | (simp only [World.size_alloc, World.size_setCell, size_drewN, World.size_drew] <;> omega)))
  obtain ⟨c4_1, f4_1, l4_1, n4_1, m4_1⟩ := hb4.facts (b := w2.heap.size) (by (first | omega | (simp only [World.size_alloc, World.size_setCell, size_drewN, World.size_drew] <;> omega))) (by (first | omega | (simp only [World.size_alloc, World.size_setCell, size_drewN, World.size_drew] <;> omega)))
  go_wp2_with fail
  refine (kid_b (N := N) (m := m) (by repeat (first | with_reducible assumption | with_reducible apply Bst.alloc | with_reducible apply Bst.drew | with_reducible apply Bst.drewN | (with_reducible apply Bst.set1; rotate_left; (first | omega | (simp only [World.size_alloc, World.size_setCell, size_drewN, World.size_drew] <;> omega))))) (NdK.stay (Nat.le_refl _) (But.same (lb := bb) (by repeat (first | with_reducible exact But.refl _ _ | with_reducible refine But.alloc ?_ _ | (with_reducible refine But.set1 ?_ ?_ _ _; rotate_left; (first | omega | (simp only [World.size_alloc, World.size_setCell, size_drewN, World.size_drew] <;> omega))) | with_reducible refine But.drew ?_ | with_reducible refine But.drewN ?_ _ | with_reducible refine But.trans ?_ (by assumption))) (by (first | omega | (simp only [World.size_alloc, World.size_setCell, size_drewN, World.size_drew] <;> omega))) (by (first | omega | (simp only [World.size_alloc, World.size_setCell, size_drewN, World.size_drew] <;> omega)))) _ _ hn) 1 y rfl).mono ?_
  rintro e w5 ⟨kv5, rfl, hk5, hs5, hb5⟩
  have z5 := hb5.le
  try simp only [World.size_alloc, World.size_setCell, size_drewN, World.size_drew] at z5
  obtain ⟨c5_0, f5_0, l5_0, n5_0, m5_0⟩ := hb5.facts (b := w.heap.size) (by (first | omega | (simp only [World.size_alloc, World.size_setCell, size_drewN, World.size_drew] <;> omega))) (by (first | omega | (simp only [World.size_alloc, World.size_setCell, size_drewN, World.size_drew] <;> omega)))
  obtain ⟨c5_1, f5_1, l5_1, n5_1, m5_1⟩ := hb5.facts (b := w2.heap.size) (by (first | omega | (simp only [World.size_alloc, World.size_setCell, size_drewN, World.size_drew] <;> omega))) (by (first | omega | (simp only [World.size_alloc, World.size_setCell, size_drewN, World.size_drew] <;> omega)))
  go_wp2_with fail
  refine (Hy.out _ _ N bb m _ hk5 (by repeat (first | with_reducible assumption | with_reducible apply Bst.alloc | with_reducible apply Bst.drew | with_reducible apply Bst.drewN | (with_reducible apply Bst.set1; rotate_left; (first | omega | (simp only [World.size_alloc, World.size_setCell, size_drewN, World.size_drew] <;> omega)))))).mono ?_
  rintro e w6 ⟨v6, rfl, ha6, hs6, hb6⟩
  obtain ⟨p6, rfl, hp6⟩ := ha6.ptr
  have z6 := hb6.le
  try simp only [World.size_alloc, World.size_setCell, size_drewN, World.size_drew] at z6
  obtain ⟨c6_0, f6_0, l6_0, n6_0, m6_0⟩ := hb6.facts (b := w.heap.size) (by (first | omega | (simp only [World.size_alloc, World.size_setCell, size_drewN, World.size_drew] <;> omega))) (by (first | omega | (simp only [World.size_alloc, World.size_setCell, size_drewN, World.size_drew] <;> omega)))
  obtain ⟨c6_1, f6_1, l6_1, n6_1, m6_1⟩ := hb6.facts (b := w2.heap.size) (by (first | omega | (simp only [World.size_alloc, World.size_setCell, size_drewN, World.size_drew] <;> omega))) (by (first | omega | (simp only [World.size_alloc, World.size_setCell, size_drewN, World.size_drew] <;> omega)))
  go_wp2_with fail
  refine (next_any (N := N) (m := m) (by repeat (first | with_reducible assumption | with_reducible apply Bst.alloc | with_reducible apply Bst.drew | with_reducible apply Bst.drewN | (with_reducible apply Bst.set1; rotate_left; (first | omega | (simp only [World.size_alloc, World.size_setCell, size_drewN, World.size_drew] <;> omega)))))).mono ?_
  rintro e w7 ⟨rfl, hs7, hb7⟩
  have z7 := hb7.le
  try simp only [World.size_alloc, World.size_setCell, size_drewN, World.size_drew] at z7
  obtain ⟨c7_0, f7_0, l7_0, n7_0, m7_0⟩ := hb7.facts (b := w.heap.size) (by (first | omega | (simp only [World.size_alloc, World.size_setCell, size_drewN, World.size_drew] <;> omega))) (by (first | omega | (simp only [World.size_alloc, World.size_setCell, size_drewN, World.size_drew] <;> omega)))
  obtain ⟨c7_1, f7_1, l7_1, n7_1, m7_1⟩ := hb7.facts (b := w2.heap.size) (by (first | omega | (simp only [World.size_alloc, World.size_setCell, size_drewN, World.size_drew] <;> omega))) (by (first | omega | (simp only [World.size_alloc, World.size_setCell, size_drewN, World.size_drew] <;> omega)))
  go_wp2_with fail
  go_ret
  unfold EPost
  rw [HV.out]
  unfold mkAsrt
  dsimp only
  refine ⟨_, rfl, ?_, (by repeat (first | with_reducible assumption | with_reducible apply Bst.alloc | with_reducible apply Bst.drew | with_reducible apply Bst.drewN | (with_reducible apply Bst.set1; rotate_left; (first | omega | (simp only [World.size_alloc, World.size_setCell, size_drewN, World.size_drew] <;> omega))))), (by repeat (first | with_reducible exact But.refl _ _ | with_reducible refine But.alloc ?_ _ | (with_reducible refine But.set1 ?_ ?_ _ _; rotate_left; (first | omega | (simp only [World.size_alloc, World.size_setCell, size_drewN, World.size_drew] <;> omega))) | with_reducible refine But.drew ?_ | with_reducible refine But.drewN ?_ _ | with_reducible refine But.trans ?_ (by assumption)))⟩
  exact At_asrt.2 ⟨w2.heap.size, rfl, ⟨by (first | omega | (simp only [World.size_alloc, World.size_setCell, size_drewN, World.size_drew] <;> omega)), by (first | omega | (simp only [World.size_alloc, World.size_setCell, size_drewN, World.size_drew] <;> omega))⟩, _, _, by go_cell, ha2.wide (by repeat (first | with_reducible exact MidI.refl _ _ _ | (with_reducible refine MidI.alloc ?_ ?_ _; rotate_left; (first | omega | (simp only [World.size_alloc, World.size_setCell, size_drewN, World.size_drew] <;> omega))) | (with_reducible refine MidI.set1 ?_ ?_ _ _; rotate_left; (first | omega | (simp only [World.size_alloc, World.size_setCell, size_drewN, World.size_drew] <;> omega))) | with_reducible refine MidI.drew ?_ | with_reducible refine MidI.drewN ?_ _ | (with_reducible refine MidI.but ?_ (by assumption) ?_ ?_; rotate_left; (first | omega | (simp only [World.size_alloc, World.size_setCell, size_drewN, World.size_drew] <;> omega)); (first | omega | (simp only [World.size_alloc, World.size_setCell, size_drewN, World.size_drew] <;> omega))))) (by (first | omega | (simp only [World.size_alloc, World.size_setCell, size_drewN, World.size_drew] <;> omega))) (by (first | omega | (simp only [World.size_alloc, World.size_setCell, size_drewN, World.size_drew] <;> omega))), by go_cell, by go_cell, AtO_some.2 (ha6.wide (by repeat (first | with_reducible exact MidI.refl _ _ _ | (with_reducible refine MidI.alloc ?_ ?_ _; rotate_left; (first | omega | (simp only [World.size_alloc, World.size_setCell, size_drewN, World.size_drew] <;> omega))) | (with_reducible refine MidI.set1 ?_ ?_ _ _; rotate_left; (first | omega | (simp only [World.size_alloc, World.size_setCell, size_drewN, World.size_drew] <;> omega))) | with_reducible refine MidI.drew ?_ | with_reducible refine MidI.drewN ?_ _ | (with_reducible refine MidI.but ?_ (by assumption) ?_ ?_; rotate_left; (first | omega | (simp only [World.size_alloc, World.size_setCell, size_drewN, World.size_drew] <;> omega)); (first | omega | (simp only [World.size_alloc, World.size_setCell, size_drewN, World.size_drew] <;> omega))))) (by (first | omega | (simp only [World.size_alloc, World.size_setCell, size_drewN, World.size_drew] <;> omega))) (by (first | omega | (simp only [World.size_alloc, World.size_setCell, size_drewN, World.size_drew] <;> omega)))), by go_cell⟩

set_option maxRecDepth 100000 in
set_option maxHeartbeats 2000000 in
theorem expr_unary (t : ByteArray) (x : Nd) (hx : ExprOK x) : ExprOK (.mk ⟨#[117, 110, 97, 114, 121]⟩ t [x]) := by
  intro kv w N bb m l hn hs0
  obtain ⟨a, cap, hv, -, -⟩ := hn.slice
  subst hv
  have hN1 := hs0.hN
  have hN2 := hs0.hb
  have hN3 := hs0.hm
  have z0 := hs0.sz
  have HV := hide (show bE (.mk ⟨#[117, 110, 97, 114, 121]⟩ t [x]) l = mkUnary l t (bE x l.tail) by simp [bE])
  have Hx := hide hx
  clear hx
  simp only [Nd.kids_mk, Nd.kind_mk, Nd.text_mk, List.length_cons, List.length_nil] at hn ⊢
  go_enter Tryz.func68, Tryz.ntmps68
  go_wp2_with fail
  go_region_held3 (fun w' => w'.cell? ⟨w.heap.size, 0, none⟩ = some (.string ⟨#[117, 110, 97, 114, 121]⟩) ∧ w'.cell? ⟨w.heap.size, 1, none⟩ = some (.string t)) (go_keep) (first
    | (go_at_call 70
       refine (next_any (N := N) (m := m) (by repeat (first | with_reducible assumption | with_reducible apply Bst.alloc | with_reducible apply Bst.drew | with_reducible apply Bst.drewN | (with_reducible apply Bst.set1; rotate_left; (first | omega | (simp only [World.size_alloc, World.size_setCell, size_drewN, World.size_drew] <;> omega)))))).mono ?_
       rintro e w1 ⟨rfl, hs1, hb1⟩
       have z1 := hb1.le
       try simp only [World.size_alloc, World.size_setCell, size_drewN, World.size_drew] at z1
       obtain ⟨c1_0, f1_0, l1_0, n1_0, m1_0⟩ := hb1.facts (b := w.heap.size) (by (first | omega | (simp only [World.size_alloc, World.size_setCell, size_drewN, World.size_drew] <;> omega))) (by (first | omega | (simp only [World.size_alloc, World.size_setCell, size_drewN, World.size_drew] <;> omega)))
      )
    | (go_at_call 71
       refine (word_b (N := N) (m := m) (by repeat (first | with_reducible assumption | with_reducible apply Bst.alloc | with_reducible apply Bst.drew | with_reducible apply Bst.drewN | (with_reducible apply Bst.set1; rotate_left; (first | omega | (simp only [World.size_alloc, World.size_setCell, size_drewN, World.size_drew] <;> omega))))) _).mono ?_
       rintro e wz ⟨rfl, rfl⟩
      ))
  go_wp2_with fail
  refine (kid_b (N := N) (m := m) (by repeat (first | with_reducible assumption | with_reducible apply Bst.alloc | with_reducible apply Bst.drew | with_reducible apply Bst.drewN | (with_reducible apply Bst.set1; rotate_left; (first | omega | (simp only [World.size_alloc, World.size_setCell, size_drewN, World.size_drew] <;> omega))))) (NdK.stay (Nat.le_refl _) (But.same (lb := bb) (by repeat (first | with_reducible exact But.refl _ _ | with_reducible refine But.alloc ?_ _ | (with_reducible refine But.set1 ?_ ?_ _ _; rotate_left; (first | omega | (simp only [World.size_alloc, World.size_setCell, size_drewN, World.size_drew] <;> omega))) | with_reducible refine But.drew ?_ | with_reducible refine But.drewN ?_ _ | with_reducible refine But.trans ?_ (by assumption))) (by (first | omega | (simp only [World.size_alloc, World.size_setCell, size_drewN, World.size_drew] <;> omega))) (by (first | omega | (simp only [World.size_alloc, World.size_setCell, size_drewN, World.size_drew] <;> omega)))) _ _ hn) 0 x rfl).mono ?_
  rintro e w2 ⟨kv2, rfl, hk2, hs2, hb2⟩
  have z2 := hb2.le
  try simp only [World.size_alloc, World.size_setCell, size_drewN, World.size_drew] at z2
  obtain ⟨c2_0, f2_0, l2_0, n2_0, m2_0⟩ := hb2.facts (b := w.heap.size) (by (first | omega | (simp only [World.size_alloc, World.size_setCell, size_drewN, World.size_drew] <;> omega))) (by (first | omega | (simp only [World.size_alloc, World.size_setCell, size_drewN, World.size_drew] <;> omega)))
  obtain ⟨c2_1, f2_1, l2_1, n2_1, m2_1⟩ := hb2.facts (b := w1.heap.size) (by (first | omega | (simp only [World.size_alloc, World.size_setCell, size_drewN, World.size_drew] <;> omega))) (by (first | omega | (simp only [World.size_alloc, World.size_setCell, size_drewN, World.size_drew] <;> omega)))
  go_wp2_with fail
  refine (Hx.out _ _ N bb m _ hk2 (by repeat (first | with_reducible assumption | with_reducible apply Bst.alloc | with_reducible apply Bst.drew | with_reducible apply Bst.drewN | (with_reducible apply Bst.set1; rotate_left; (first | omega | (simp only [World.size_alloc, World.size_setCell, size_drewN, World.size_drew] <;> omega)))))).mono ?_
  rintro e w3 ⟨v3, rfl, ha3, hs3, hb3⟩
  obtain ⟨p3, rfl, hp3⟩ := ha3.ptr
  have z3 := hb3.le
  try simp only [World.size_alloc, World.size_setCell, size_drewN, World.size_drew] at z3
  obtain ⟨c3_0, f3_0, l3_0, n3_0, m3_0⟩ := hb3.facts (b := w.heap.size) (by (first | omega | (simp only [World.size_alloc, World.size_setCell, size_drewN, World.size_drew] <;> omega))) (by (first | omega | (simp only [World.size_alloc, World.size_setCell, size_drewN, World.size_drew] <;> omega)))
  obtain ⟨c3_1, f3_1, l3_1, n3_1, m3_1⟩ := hb3.facts (b := w1.heap.size) (by (first | omega | (simp only [World.size_alloc, World.size_setCell, size_drewN, World.size_drew] <;> omega))) (by (first | omega | (simp only [World.size_alloc, World.size_setCell, size_drewN, World.size_drew] <;> omega)))
  go_wp2_with fail
  go_ret
  unfold EPost
  rw [HV.out]
  unfold mkUnary
  dsimp only
  refine ⟨_, rfl, ?_, (by repeat (first | with_reducible assumption | with_reducible apply Bst.alloc | with_reducible apply Bst.drew | with_reducible apply Bst.drewN | (with_reducible apply Bst.set1; rotate_left; (first | omega | (simp only [World.size_alloc, World.size_setCell, size_drewN, World.size_drew] <;> omega))))), (by repeat (first | with_reducible exact But.refl _ _ | with_reducible refine But.alloc ?_ _ | (with_reducible refine But.set1 ?_ ?_ _ _; rotate_left; (first | omega | (simp only [World.size_alloc, World.size_setCell, size_drewN, World.size_drew] <;> omega))) | with_reducible refine But.drew ?_ | with_reducible refine But.drewN ?_ _ | with_reducible refine But.trans ?_ (by assumption)))⟩
  exact At_unary.2 ⟨w1.heap.size, rfl, ⟨by (first | omega | (simp only [World.size_alloc, World.size_setCell, size_drewN, World.size_drew] <;> omega)), by (first | omega | (simp only [World.size_alloc, World.size_setCell, size_drewN, World.size_drew] <;> omega))⟩, _, by go_cell, by go_cell, by go_cell, ha3.wide (by repeat (first | with_reducible exact MidI.refl _ _ _ | (with_reducible refine MidI.alloc ?_ ?_ _; rotate_left; (first | omega | (simp only [World.size_alloc, World.size_setCell, size_drewN, World.size_drew] <;> omega))) | (with_reducible refine MidI.set1 ?_ ?_ _ _; rotate_left; (first | omega | (simp only [World.size_alloc, World.size_setCell, size_drewN, World.size_drew] <;> omega))) | with_reducible refine MidI.drew ?_ | with_reducible refine MidI.drewN ?_ _ | (with_reducible refine MidI.but ?_ (by assumption) ?_ ?_; rotate_left; (first | omega | (simp only [World.size_alloc, World.size_setCell, size_drewN, World.size_drew] <;> omega)); (first | omega | (simp only [World.size_alloc, World.size_setCell, size_drewN, World.size_drew] <;> omega))))) (by (first | omega | (simp only [World.size_alloc, World.size_setCell, size_drewN, World.size_drew] <;> omega))) (by (first | omega | (simp only [World.size_alloc, World.size_setCell, size_drewN, World.size_drew] <;> omega)))⟩

set_option maxRecDepth 100000 in
set_option maxHeartbeats 2000000 in
theorem expr_binary (t : ByteArray) (x : Nd) (y : Nd) (hx : ExprOK x) (hy : ExprOK y) : ExprOK (.mk ⟨#[98, 105, 110, 97, 114, 121]⟩ t [x, y]) := by
  intro kv w N bb m l hn hs0
  obtain ⟨a, cap, hv, -, -⟩ := hn.slice
  subst hv
  have hN1 := hs0.hN
  have hN2 := hs0.hb
  have hN3 := hs0.hm
  have z0 := hs0.sz
  have HV := hide (show bE (.mk ⟨#[98, 105, 110, 97, 114, 121]⟩ t [x, y]) l = mkBinary (bE x l) t (bE y (bE x l).2.tail) by simp [bE])
  have Hx := hide hx
  clear hx
  have Hy := hide hy
  clear hy
  simp only [Nd.kids_mk, Nd.kind_mk, Nd.text_mk, List.length_cons, List.length_nil] at hn ⊢
  go_enter Tryz.func68, Tryz.ntmps68
  go_wp2_with fail
  go_region_held3 (fun w' => w'.cell? ⟨w.heap.size, 0, none⟩ = some (.string ⟨#[98, 105, 110, 97, 114, 121]⟩) ∧ w'.cell? ⟨w.heap.size, 1, none⟩ = some (.string t) ∧ w'.cell? ⟨w.heap.size, 2, none⟩ = some (.slice a (0 + 1 + 1) cap)) (go_keep) (first
    | (go_at_call 69
       refine (kid_b (N := N) (m := m) (by repeat (first | with_reducible assumption | with_reducible apply Bst.alloc | with_reducible apply Bst.drew | with_reducible apply Bst.drewN | (with_reducible apply Bst.set1; rotate_left; (first | omega | (simp only [World.size_alloc, World.size_setCell, size_drewN, World.size_drew] <;> omega))))) (NdK.stay (Nat.le_refl _) (But.same (lb := bb) (by repeat (first | with_reducible exact But.refl _ _ | with_reducible refine But.alloc ?_ _ | (with_reducible refine But.set1 ?_ ?_ _ _; rotate_left; (first | omega | (simp only [World.size_alloc, World.size_setCell, size_drewN, World.size_drew] <;> omega))) | with_reducible refine But.drew ?_ | with_reducible refine But.drewN ?_ _ | with_reducible refine But.trans ?_ (by assumption))) (by (first | omega | (simp only [World.size_alloc, World.size_setCell, size_drewN, World.size_drew] <;> omega))) (by (first | omega | (simp only [World.size_alloc, World.size_setCell, size_drewN, World.size_drew] <;> omega)))) _ _ hn) 0 x rfl).mono ?_
       rintro e w1 ⟨kv1, rfl, hk1, hs1, hb1⟩
       have z1 := hb1.le
       try simp only [World.size_alloc, World.size_setCell, size_drewN, World.size_drew] at z1
       obtain ⟨c1_0, f1_0, l1_0, n1_0, m1_0⟩ := hb1.facts (b := w.heap.size) (by (first | omega | (simp only [World.size_alloc, World.size_setCell, size_drewN, World.size_drew] <;> omega))) (by (first | omega | (simp only [World.size_alloc, World.size_setCell, size_drewN, World.size_drew] <;> omega)))
      )
    | (go_at_call 68
       refine (Hx.out _ _ N bb m _ hk1 (by repeat (first | with_reducible assumption | with_reducible apply Bst.alloc | with_reducible apply Bst.drew | with_reducible apply Bst.drewN | (with_reducible apply Bst.set1; rotate_left; (first | omega | (simp only [World.size_alloc, World.size_setCell, size_drewN, World.size_drew] <;> omega)))))).mono ?_
       rintro e w2 ⟨v2, rfl, ha2, hs2, hb2⟩
       obtain ⟨p2, rfl, hp2⟩ := ha2.ptr
       have z2 := hb2.le
       try simp only [World.size_alloc, World.size_setCell, size_drewN, World.size_drew] at z2
       obtain ⟨c2_0, f2_0, l2_0, n2_0, m2_0⟩ := hb2.facts (b := w.heap.size) (by (first | omega | (simp only [World.size_alloc, World.size_setCell, size_drewN, World.size_drew] <;> omega))) (by (first | omega | (simp only [World.size_alloc, World.size_setCell, size_drewN, World.size_drew] <;> omega)))
      )
    | (go_at_call 70
       refine (next_any (N := N) (m := m) (by repeat (first | with_reducible assumption | with_reducible apply Bst.alloc | with_reducible apply Bst.drew | with_reducible apply Bst.drewN | (with_reducible apply Bst.set1; rotate_left; (first | omega | (simp only [World.size_alloc, World.size_setCell, size_drewN, World.size_drew] <;> omega)))))).mono ?_
       rintro e w3 ⟨rfl, hs3, hb3⟩
       have z3 := hb3.le
       try simp only [World.size_alloc, World.size_setCell, size_drewN, World.size_drew] at z3
       obtain ⟨c3_0, f3_0, l3_0, n3_0, m3_0⟩ := hb3.facts (b := w.heap.size) (by (first | omega | (simp only [World.size_alloc, World.size_setCell, size_drewN, World.size_drew] <;> omega))) (by (first | omega | (simp only [World.size_alloc, World.size_setCell, size_drewN, World.size_drew] <;> omega)))
      )
    | (go_at_call 71
       refine (word_b (N := N) (m := m) (by repeat (first | with_reducible assumption | with_reducible apply Bst.alloc | with_reducible apply Bst.drew | with_reducible apply Bst.drewN | (with_reducible apply Bst.set1; rotate_left; (first | omega | (simp only [World.size_alloc, World.size_setCell, size_drewN, World.size_drew] <;> omega))))) _).mono ?_
       rintro e wz ⟨rfl, rfl⟩
      ))
  go_wp2_with fail
  refine (kid_b (N := N) (m := m) (by repeat (first | with_reducible assumption | with_reducible apply Bst.alloc | with_reducible apply Bst.drew | with_reducible apply Bst.drewN | (with_reducible apply Bst.set1; rotate_left; (first | omega | (simp only [World.size_alloc, World.size_setCell, size_drewN, World.size_drew] <;> omega))))) (NdK.stay (Nat.le_refl _) (But.same (lb := bb) (by repeat (first | with_reducible exact But.refl _ _ | with_reducible refine But.alloc ?_ _ | (with_reducible refine But.set1 ?_ ?_ _ _; rotate_left; (first | omega | (simp only [World.size_alloc, World.size_setCell, size_drewN, World.size_drew] <;> omega))) | with_reducible refine But.drew ?_ | with_reducible refine But.drewN ?_ _ | with_reducible refine But.trans ?_ (by assumption))) (by (first | omega | (simp only [World.size_alloc, World.size_setCell, size_drewN, World.size_drew] <;> omega))) (by (first | omega | (simp only [World.size_alloc, World.size_setCell, size_drewN, World.size_drew] <;> omega)))) _ _ hn) 1 y rfl).mono ?_
  rintro e w4 ⟨kv4, rfl, hk4, hs4, hb4⟩
  have z4 := hb4.le
  try simp only [World.size_alloc, World.size_setCell, size_drewN, World.size_drew] at z4
  obtain ⟨c4_0, f4_0, l4_0, n4_0, m4_0⟩ := hb4.facts (b := w.heap.size) (by (first | omega | (simp only [World.size_alloc, World.size_setCell, size_drewN, World.size_drew] <;> omega))) (by (first | omega | (simp only [World.size_alloc, World.size_setCell, size_drewN, World.size_drew] <;> omega)))
  obtain ⟨c4_1, f4_1, l4_1, n4_1, m4_1⟩ := hb4.facts (b := w3.heap.size) (by (first | omega | (simp only [World.size_alloc, World.size_setCell, size_drewN, World.size_drew] <;> omega))) (by (first | omega | (simp only [World.size_alloc, World.size_setCell, size_drewN, World.size_drew] <;> omega)))
  go_wp2_with fail
  refine (Hy.out _ _ N bb m _ hk4 (by repeat (first | with_reducible assumption | with_reducible apply Bst.alloc | with_reducible apply Bst.drew | with_reducible apply Bst.drewN | (with_reducible apply Bst.set1; rotate_left; (first | omega | (simp only [World.size_alloc, World.size_setCell, size_drewN, World.size_drew] <;> omega)))))).mono ?_
  rintro e w5 ⟨v5, rfl, ha5, hs5, hb5⟩
  obtain ⟨p5, rfl, hp5⟩ := ha5.ptr
  have z5 := hb5.le
  try simp only [World.size_alloc, World.size_setCell, size_drewN, World.size_drew] at z5
  obtain ⟨c5_0, f5_0, l5_0, n5_0, m5_0⟩ := hb5.facts (b := w.heap.size) (by (first | omega | (simp only [World.size_alloc, World.size_setCell, size_drewN, World.size_drew] <;> omega))) (by (first | omega | (simp only [World.size_alloc, World.size_setCell, size_drewN, World.size_drew] <;> omega)))
  obtain ⟨c5_1, f5_1, l5_1, n5_1, m5_1⟩ := hb5.facts (b := w3.heap.size) (by (first | omega | (simp only [World.size_alloc, World.size_setCell, size_drewN, World.size_drew] <;> omega))) (by (first | omega | (simp only [World.size_alloc, World.size_setCell, size_drewN, World.size_drew] <;> omega)))
  go_wp2_with fail
  go_ret
  unfold EPost
  rw [HV.out]
  unfold mkBinary
  dsimp only
  refine ⟨_, rfl, ?_, (by repeat (first | with_reducible assumption | with_reducible apply Bst.alloc | with_reducible apply Bst.drew | with_reducible apply Bst.drewN | (with_reducible apply Bst.set1; rotate_left; (first | omega | (simp only [World.size_alloc, World.size_setCell, size_drewN, World.size_drew] <;> omega))))), (by repeat (first | with_reducible exact But.refl _ _ | with_reducible refine But.alloc ?_ _ | (with_reducible refine But.set1 ?_ ?_ _ _; rotate_left; (first | omega | (simp only [World.size_alloc, World.size_setCell, size_drewN, World.size_drew] <;> omega))) | with_reducible refine But.drew ?_ | with_reducible refine But.drewN ?_ _ | with_reducible refine But.trans ?_ (by assumption)))⟩
  exact At_binary.2 ⟨w3.heap.size, rfl, ⟨by (first | omega | (simp only [World.size_alloc, World.size_setCell, size_drewN, World.size_drew] <;> omega)), by (first | omega | (simp only [World.size_alloc, World.size_setCell, size_drewN, World.size_drew] <;> omega))⟩, _, _, by go_cell, ha2.wide (by repeat (first | with_reducible exact MidI.refl _ _ _ | (with_reducible refine MidI.alloc ?_ ?_ _; rotate_left; (first | omega | (simp only [World.size_alloc, World.size_setCell, size_drewN, World.size_drew] <;> omega))) | (with_reducible refine MidI.set1 ?_ ?_ _ _; rotate_left; (first | omega | (simp only [World.size_alloc, World.size_setCell, size_drewN, World.size_drew] <;> omega))) | with_reducible refine MidI.drew ?_ | with_reducible refine MidI.drewN ?_ _ | (with_reducible refine MidI.but ?_ (by assumption) ?_ ?_; rotate_left; (first | omega | (simp only [World.size_alloc, World.size_setCell, size_drewN, World.size_drew] <;> omega)); (first | omega | (simp only [World.size_alloc, World.size_setCell, size_drewN, World.size_drew] <;> omega))))) (by (first | omega | (simp only [World.size_alloc, World.size_setCell, size_drewN, World.size_drew] <;> omega))) (by (first | omega | (simp only [World.size_alloc, World.size_setCell, size_drewN, World.size_drew] <;> omega))), by go_cell, by go_cell, by go_cell, ha5.wide (by repeat (first | with_reducible exact MidI.refl _ _ _ | (with_reducible refine MidI.alloc ?_ ?_ _; rotate_left; (first | omega | (simp only [World.size_alloc, World.size_setCell, size_drewN, World.size_drew] <;> omega))) | (with_reducible refine MidI.set1 ?_ ?_ _ _; rotate_left; (first | omega | (simp only [World.size_alloc, World.size_setCell, size_drewN, World.size_drew] <;> omega))) | with_reducible refine MidI.drew ?_ | with_reducible refine MidI.drewN ?_ _ | (with_reducible refine MidI.but ?_ (by assumption) ?_ ?_; rotate_left; (first | omega | (simp only [World.size_alloc, World.size_setCell, size_drewN, World.size_drew] <;> omega)); (first | omega | (simp only [World.size_alloc, World.size_setCell, size_drewN, World.size_drew] <;> omega))))) (by (first | omega | (simp only [World.size_alloc, World.size_setCell, size_drewN, World.size_drew] <;> omega))) (by (first | omega | (simp only [World.size_alloc, World.size_setCell, size_drewN, World.size_drew] <;> omega)))⟩

end Go.Proofs.YtkkgfgllfbahlaaGreatFmt
