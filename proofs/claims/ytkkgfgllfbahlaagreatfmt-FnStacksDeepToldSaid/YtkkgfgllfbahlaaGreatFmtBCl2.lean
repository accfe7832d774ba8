/- builder.clauses. -/
import Derived.Test.YtkkgfgllfbahlaaGreatFmtBEs
set_option linter.unusedVariables false
set_option linter.unusedSimpArgs false
namespace Go.Proofs.YtkkgfgllfbahlaaGreatFmt
open Go Go.RowKit
set_option linter.unusedSimpArgs false

def SOPost (N bb m : Nat) (r : BO) (w : World) (e : Ending) (w' : World) : Prop :=
  ∃ v, e = .returned v ∧ v.oneCell' = true ∧ AtO (In w.heap.size w'.heap.size) w' r.1 v ∧ Bst N bb m r.2 w' ∧ But bb w w'
/-- The builder's stmt answers on this node, or it is not there. -/
def StmtO (n : Nd) : Prop := ∀ (kv : Value) (w : World) (N bb m : Nat) (l : List Int), NdK N w n kv → Bst N bb m l w →
  Calls Tryz.prog 51 #[.pointer (some ⟨bb, 0, none⟩), .agg #[.string n.kind, .string n.text, kv]] w (SOPost N bb m (optB n l (bS n l)) w)
/-- A one-cell value of whatever form, stored. -/
def Stores (v : Value) : Prop := ∀ (W : World) (b o : Nat), (W.cell? ⟨b, o, none⟩).isSome = true → W.frozen? ⟨b, o, none⟩ = false → Sem.run Tryz.prog (storeCells ⟨b, o, none⟩ [v]) W = .ok () (W.setCell ⟨b, o, none⟩ v)
theorem stores_of {v : Value} (h : v.oneCell' = true) : Stores v := by
  intro W b o hc hf
  obtain ⟨u, hu⟩ := Option.isSome_iff_exists.1 hc
  have hst := run_store Tryz.prog W ⟨b, o, none⟩ v .plain h
  rw [hu] at hst
  simp only [hf] at hst
  have e0 : (⟨b, o, none⟩ : Addr).add 0 = ⟨b, o, none⟩ := by simp [Addr.add]
  simp [storeCells, e0, hst]
theorem AtO.wide {lo hi lo1 hi1 : Nat} {w w1 : World} {a : Option Ast} {v : Value} (h : AtO (In lo hi) w a v) (hm : MidI lo hi w w1) (h1 : lo1 ≤ lo) (h2 : hi ≤ hi1) : AtO (In lo1 hi1) w1 a v :=
  h.stay (fun k hk => ⟨Nat.le_trans h1 hk.1, Nat.lt_of_lt_of_le hk.2 h2⟩) hm

/-- The relation of the loop of clauses: the row lies in the block's own field. -/
def ClRel (et : TypeId) (N bb m : Nat) (F : Nat → List Int → List Ast × List Int) (n : Nat) (l : List Int) (ad : Nat) (p0 : Int) (w : World) (c : Value) (wr : World) : Prop :=
  ∃ (v : Value) (i : Nat) (li : List Int) (xs : List Ast) (vs : List Value), i ≤ n ∧ c = .int .i64 i ∧ F 0 l = (xs ++ (F i li).1, (F i li).2) ∧
    wr.ownsRow (ad + 1) et 1 v i vs ∧ Els (Av (ad + 1) wr.heap.size v.ownBlock) wr xs vs ∧ Bst N bb m li wr ∧ But bb w wr ∧
    wr.cell? ⟨ad, 0, none⟩ = some (.int .i64 p0) ∧ wr.cell? ⟨ad, 1, none⟩ = some v ∧ wr.cell? ⟨ad, 2, none⟩ = some (.int .i64 0) ∧ (∀ j, wr.frozen? ⟨ad, j, none⟩ = false) ∧ ad < wr.heap.size

theorem ClRel.snoc {et : TypeId} {N bb m : Nat} {F : Nat → List Int → List Ast × List Int} {n : Nat} {l li l2 : List Int} {ad : Nat} {p0 : Int} {w wr w2 wb w4 : World} {v c va : Value} {i lo g cap4 : Nat} {xs : List Ast} {vs : List Value} {a : Ast}
    (had : w.heap.size ≤ ad) (hbb : bb < w.heap.size) (hmw : m ≤ w.heap.size) (hi : i < n) (hc : c = .int .i64 ((i + 1 : Nat) : Int)) (hF : F 0 l = (xs ++ (F i li).1, (F i li).2)) (hstep : F i li = (a :: (F (i + 1) l2).1, (F (i + 1) l2).2))
    (hown : wr.ownsRow (ad + 1) et 1 v i vs) (hels : Els (Av (ad + 1) wr.heap.size v.ownBlock) wr xs vs) (hbr : But bb w wr) (hal : ad < wr.heap.size)
    (h0 : wr.cell? ⟨ad, 0, none⟩ = some (.int .i64 p0)) (h1 : wr.cell? ⟨ad, 1, none⟩ = some v) (h2 : wr.cell? ⟨ad, 2, none⟩ = some (.int .i64 0)) (hf : ∀ j, wr.frozen? ⟨ad, j, none⟩ = false)
    (hbX : But bb wr wb) (hlo : wr.heap.size ≤ lo) (ha : At (In lo w2.heap.size) w2 a va) (hm2 : MidI lo w2.heap.size w2 wb) (hw2 : w2.heap.size ≤ wb.heap.size) (hs : Bst N bb m l2 wb)
    (hown4 : w4.ownsRow (ad + 1) et 1 (.slice (some ⟨g, 0, none⟩) (i + 1) cap4) (i + 1) (vs ++ [va])) (hgrow : wb.grownBy w4 v.ownBlock) (hat : v.ownBlock = some g ∨ g = wb.heap.size) :
    ClRel et N bb m F n l ad p0 w c (w4.setCell ⟨ad, 1, none⟩ (.slice (some ⟨g, 0, none⟩) (i + 1) cap4)) := by
  have hlt := hown.lt
  have z1 := hbr.le
  have z2 := hbX.le
  have z3 := hgrow.size
  have hadne : v.ownBlock ≠ some ad := fun e => by have := (hlt ad e).1; omega
  have hb4 : w4.heap[ad]? = wr.heap[ad]? := (hgrow.block ad (by omega) (fun e => hadne e.symm)).trans (hbX.block ad hal (fun e => by injection e; omega))
  have hcell : ∀ j, w4.cell? ⟨ad, j, none⟩ = wr.cell? ⟨ad, j, none⟩ := fun j => World.cell?_of_block hb4
  have hfr : ∀ j, w4.frozen? ⟨ad, j, none⟩ = wr.frozen? ⟨ad, j, none⟩ := fun j => World.frozen?_of_block hb4
  have hg1 : ad + 1 ≤ g := (hown4.lt g rfl).1
  have hset : ∀ k, k ≠ ad → (w4.setCell ⟨ad, 1, none⟩ (.slice (some ⟨g, 0, none⟩) (i + 1) cap4)).heap[k]? = w4.heap[k]? := fun k hk => Below.heap_setCell w4 _ _ k hk
  have hg : ∀ k, v.ownBlock ≠ some k → k < wb.heap.size → (Value.slice (some ⟨g, 0, none⟩) (i + 1) cap4).ownBlock ≠ some k := by
    intro k hk hkl e
    have e : g = k := by simpa [Value.ownBlock] using e
    subst e
    rcases hat with h | h
    · exact hk h
    · omega
  refine ⟨.slice (some ⟨g, 0, none⟩) (i + 1) cap4, i + 1, l2, xs ++ [a], vs ++ [va], hi, hc, ?_, ?_, ?_, ?_, ?_, ?_, ?_, ?_, ?_, ?_⟩
  · rw [hF, hstep]; simp
  · refine hown4.kept (row := some ad) ⟨rfl, rfl, rfl, by simp [World.setCell], fun k hk hne => hset k (fun e => hne (by rw [e]))⟩ (Or.inr fun e => ?_)
    have e : g = ad := by simpa [Value.ownBlock] using e
    omega
  · refine Els.snoc (hels.stay (fun k hk => ⟨hk.1, by have := hk.2.1; simp [World.setCell]; omega, hg k hk.2.2 (by have := hk.2.1; omega)⟩) fun k hk => ?_) (ha.stay (fun k hk => ⟨by have := hk.1; omega, by have := hk.2; simp [World.setCell]; omega, hg k (fun e => ?_) (by have := hk.2; omega)⟩) fun k hk => ?_)
    · refine (hset k (by have := hk.1; omega)).trans ((hgrow.block k (by have := hk.2.1; omega) (fun e => hk.2.2 e.symm)).trans (hbX.block k hk.2.1 (fun e => ?_)))
      injection e with e
      have := hk.1
      omega
    · refine (hset k (by have := hk.1; omega)).trans ((hgrow.block k (by have := hk.2; omega) (fun e => ?_)).trans (hm2 k hk))
      have := (hlt k e.symm).2
      have := hk.1
      omega
    · have := (hlt k e).2
      have := hk.1
      omega
  · exact (hs.grow hgrow (fun k hk => by have := (hlt k hk).1; omega)).set1 (by omega)
  · exact ((hbr.trans hbX).grow hgrow (fun k hk => by have := (hlt k hk).1; omega)).set1 had _ _
  · rw [World.cell?_setCell_other _ _ _ _ (by simp)]; exact (hcell 0).trans h0
  · exact World.cell?_setCell_same' _ _ _ (by rw [hcell 1, h1]; rfl)
  · rw [World.cell?_setCell_other _ _ _ _ (by simp)]; exact (hcell 2).trans h2
  · intro j; rw [World.frozen?_setCell]; exact (hfr j).trans (hf j)
  · simp [World.setCell]; omega

theorem bCl_comm (x h : Nd) (b : List Nd) (hx : x.kids = h :: b) (l : List Int) : bCl true x l = mkComm l (optB h l.tail (bS h l.tail)) (bSs b (optB h l.tail (bS h l.tail)).2.tail) := by
  obtain ⟨k, t, ks⟩ := x
  simp only [Nd.kids_mk] at hx
  subst hx
  simp [bCl]
theorem bCl_case (x h : Nd) (b : List Nd) (hx : x.kids = h :: b) (l : List Int) : bCl false x l = mkCase l (bEs true h.kids l.tail) (bSs b (bEs true h.kids l.tail).2.tail) := by
  obtain ⟨k, t, ks⟩ := x
  simp only [Nd.kids_mk] at hx
  subst hx
  simp [bCl]

def Clcomm (c : Nd) : Prop := ∃ h b, c.kids = h :: b ∧ StmtO h ∧ (∀ x, x ∈ b → StmtOK x) ∧ b.length ≤ 400
def Clcase (c : Nd) : Prop := ∃ h b, c.kids = h :: b ∧ (∀ x, x ∈ h.kids → ExprOK x) ∧ h.kids.length ≤ 400 ∧ (∀ x, x ∈ b → StmtOK x) ∧ b.length ≤ 400

set_option maxRecDepth 100000 in
set_option maxHeartbeats 4000000 in
theorem clauses_comm (n : Nd) (hks : ∀ c, c ∈ n.kids → Clcomm c) (hlen : n.kids.length ≤ 400) (kv : Value) (w : World) (N bb m : Nat) (l : List Int) (hn : NdK N w n kv) (hs0 : Bst N bb m l w) :
    Calls Tryz.prog 76 #[.pointer (some ⟨bb, 0, none⟩), .agg #[.string n.kind, .string n.text, kv], .bool true] w (PPost 98 N bb m (bC true n l) w) := by
  obtain ⟨i0, hi, hz0, hz1, hz2⟩ := info_parts info_stmt
  have HK := hide hks
  clear hks
  obtain ⟨k, t, ks⟩ := n
  obtain ⟨a, cap, hv, -, -⟩ := hn.slice
  subst hv
  have hN1 := hs0.hN
  have hN2 := hs0.hb
  have hN3 := hs0.hm
  have z0 := hs0.sz
  simp only [Nd.kids_mk] at hlen
  have hC : bC true (.mk k t ks) l = mkBlock l (bCs true ks l.tail) := by simp [bC]
  have HC := hide hC
  clear hC
  simp only [Nd.kids_mk, Nd.kind_mk, Nd.text_mk, List.length_cons, List.length_nil] at hn ⊢
  go_enter Tryz.func76, Tryz.ntmps76
  go_wp2_with fail
  refine (next_any (N := N) (m := m) (by repeat (first | with_reducible assumption | with_reducible apply Bst.alloc | with_reducible apply Bst.drew | with_reducible apply Bst.drewN | (with_reducible apply Bst.set1; rotate_left; (first | omega | (simp only [World.size_alloc, World.size_setCell, size_drewN, World.size_drew] <;> omega)))))).mono ?_
  rintro e w1 ⟨rfl, hs1, hb1⟩
  have z1 := hb1.le
  try simp only [World.size_alloc, World.size_setCell, size_drewN, World.size_drew] at z1
  obtain ⟨c1_0, f1_0, l1_0, n1_0, m1_0⟩ := hb1.facts (b := w.heap.size) (by (first | omega | (simp only [World.size_alloc, World.size_setCell, size_drewN, World.size_drew] <;> omega))) (by (first | omega | (simp only [World.size_alloc, World.size_setCell, size_drewN, World.size_drew] <;> omega)))
  go_wp2_with fail
  have hsl := NdK_iff.1 hn
  simp only [Nd.kids_mk] at hsl
  rcases hsl with ⟨hv, rfl⟩ | ⟨b, o, cap', hv, hc', hm', hr⟩
  · clear hv
    refine wp_loop_rounds 1 ?_
    rw [rounds_succ]
    go_wp2_with fail
    refine (next_any (N := N) (m := m) (by repeat (first | with_reducible assumption | with_reducible apply Bst.alloc | with_reducible apply Bst.drew | with_reducible apply Bst.drewN | (with_reducible apply Bst.set1; rotate_left; (first | omega | (simp only [World.size_alloc, World.size_setCell, size_drewN, World.size_drew] <;> omega)))))).mono ?_
    rintro e w2 ⟨rfl, hs2, hb2⟩
    have z2 := hb2.le
    try simp only [World.size_alloc, World.size_setCell, size_drewN, World.size_drew] at z2
    obtain ⟨c2_0, f2_0, l2_0, n2_0, m2_0⟩ := hb2.facts (b := w.heap.size) (by (first | omega | (simp only [World.size_alloc, World.size_setCell, size_drewN, World.size_drew] <;> omega))) (by (first | omega | (simp only [World.size_alloc, World.size_setCell, size_drewN, World.size_drew] <;> omega)))
    obtain ⟨c2_1, f2_1, l2_1, n2_1, m2_1⟩ := hb2.facts (b := w1.heap.size) (by (first | omega | (simp only [World.size_alloc, World.size_setCell, size_drewN, World.size_drew] <;> omega))) (by (first | omega | (simp only [World.size_alloc, World.size_setCell, size_drewN, World.size_drew] <;> omega)))
    go_wp2_with fail
    go_ret
    unfold PPost
    rw [HC.out]
    unfold mkBlock bCs
    dsimp only
    refine ⟨_, rfl, ?_, (by repeat (first | with_reducible assumption | with_reducible apply Bst.alloc | with_reducible apply Bst.drew | with_reducible apply Bst.drewN | (with_reducible apply Bst.set1; rotate_left; (first | omega | (simp only [World.size_alloc, World.size_setCell, size_drewN, World.size_drew] <;> omega))))), (by repeat (first | with_reducible exact But.refl _ _ | with_reducible refine But.alloc ?_ _ | (with_reducible refine But.set1 ?_ ?_ _ _; rotate_left; (first | omega | (simp only [World.size_alloc, World.size_setCell, size_drewN, World.size_drew] <;> omega))) | with_reducible refine But.drew ?_ | with_reducible refine But.drewN ?_ _ | with_reducible refine But.trans ?_ (by assumption)))⟩
    exact At_block.2 ⟨w1.heap.size, rfl, ⟨by (first | omega | (simp only [World.size_alloc, World.size_setCell, size_drewN, World.size_drew] <;> omega)), by (first | omega | (simp only [World.size_alloc, World.size_setCell, size_drewN, World.size_drew] <;> omega))⟩, _, by go_cell, by go_cell, Or.inl ⟨rfl, rfl⟩, by go_cell⟩
  · injection hv with e1 e2 e3
    subst e1 e3
    have HR := hide hr
    clear hr
    have HN := hide hn
    clear hn
    have hbA : But bb w (w1.alloc (.cells #[.int .i64 (hd l), .slice none 0 0, .int .i64 0] 195)) := (by repeat (first | with_reducible exact But.refl _ _ | with_reducible refine But.alloc ?_ _ | (with_reducible refine But.set1 ?_ ?_ _ _; rotate_left; (first | omega | (simp only [World.size_alloc, World.size_setCell, size_drewN, World.size_drew] <;> omega))) | with_reducible refine But.drew ?_ | with_reducible refine But.drewN ?_ _ | with_reducible refine But.trans ?_ (by assumption)))
    have hsA : Bst N bb m l.tail (w1.alloc (.cells #[.int .i64 (hd l), .slice none 0 0, .int .i64 0] 195)) := (by repeat (first | with_reducible assumption | with_reducible apply Bst.alloc | with_reducible apply Bst.drew | with_reducible apply Bst.drewN | (with_reducible apply Bst.set1; rotate_left; (first | omega | (simp only [World.size_alloc, World.size_setCell, size_drewN, World.size_drew] <;> omega)))))
    have hcA : ∀ j, (w1.alloc (.cells #[.int .i64 (hd l), .slice none 0 0, .int .i64 0] 195)).frozen? ⟨w1.heap.size, j, none⟩ = false := by intro j; exact World.frozen?_alloc_new _ _ _ _
    have HcA := hide hcA
    clear hcA
    have c0 : (w1.alloc (.cells #[.int .i64 (hd l), .slice none 0 0, .int .i64 0] 195)).cell? ⟨w1.heap.size, 0, none⟩ = some (.int .i64 (hd l)) := by go_cell
    have c1 : (w1.alloc (.cells #[.int .i64 (hd l), .slice none 0 0, .int .i64 0] 195)).cell? ⟨w1.heap.size, 1, none⟩ = some (.slice none 0 0) := by go_cell
    have c2 : (w1.alloc (.cells #[.int .i64 (hd l), .slice none 0 0, .int .i64 0] 195)).cell? ⟨w1.heap.size, 2, none⟩ = some (.int .i64 0) := by go_cell
    have z0' : w.heap.size ≤ w1.heap.size := by omega
    have HA := hide (show _ ∧ _ ∧ _ from ⟨c0, c1, c2⟩)
    clear c0 c1 c2
    go_loopw [21] (fun c wr => ClRel 49 N bb m (fun i li => bCs true (ks.drop i) li) ks.length l.tail w1.heap.size (hd l) w c wr) (fun c _ => ks.length - (intOf c).toNat)
    case atStart => exact ⟨.slice none 0 0, 0, l.tail, [], [], Nat.zero_le _, rfl, by simp, World.ownsRow_nil _ _ _ _, ⟨rfl, fun j a u h => by simp at h⟩, hsA, hbA, HA.out.1, HA.out.2.1, HA.out.2.2, HcA.out, by simp⟩
    case round =>
      obtain ⟨v, i, li, xs, vs, hin, rfl, hF, hown, hels, hsr, hbr, h0, h1, h2, hf, hal⟩ := hrel
      have hzr := hbr.le
      by_cases hlt : i < ks.length
      · obtain ⟨x, hx⟩ : ∃ x, ks[i]? = some x := ⟨ks[i], by simp⟩
        obtain ⟨xv, hbn, c0, c1, c2, hkn⟩ := HR.out.get hx
        obtain ⟨xa, xcap, hxv, -, -⟩ := hkn.slice
        subst hxv
        have s0 := (hbr.at (b := b) (by omega) (by omega) (o + 3 * i)).trans c0
        have s1 := (hbr.at (b := b) (by omega) (by omega) (o + 3 * i + 1)).trans c1
        have s2 := (hbr.at (b := b) (by omega) (by omega) (o + 3 * i + 2)).trans c2
        rw [Nat.mul_comm] at s0 s1 s2
        have hxw : NdK N wr x (.slice xa x.kids.length xcap) := NdK.stay (Nat.le_refl _) (But.same (lb := bb) hbr (by omega) hN2) _ _ hkn
        obtain ⟨h, bs, hxk, hho, hbs, hbl⟩ := HK.out x (List.mem_of_getElem? hx)
        have hdrop : ks.drop i = x :: ks.drop (i + 1) := by
          rw [List.drop_eq_getElem_cons hlt]
          rw [List.getElem?_eq_getElem hlt] at hx
          injection hx with hx
          rw [hx]
        have HD := hide hdrop
        have HXK := hide hxk
        have HF := hide hF
        have HO := hide hown
        have HE := hide hels
        have HH := hide hho
        have HB := hide hbs
        clear hho hbs
        have nad : ¬ w1.heap.size = wr.heap.size := by omega
        have nad' : ¬ wr.heap.size = w1.heap.size := by omega
        clear hdrop hF hown hels c0 c1 c2 hkn hx hxk
        go_wp2_with fail
        refine (kid_b (N := N) (m := m) (by repeat (first | with_reducible assumption | with_reducible apply Bst.alloc | with_reducible apply Bst.drew | with_reducible apply Bst.drewN | (with_reducible apply Bst.set1; rotate_left; (first | omega | (simp only [World.size_alloc, World.size_setCell, size_drewN, World.size_drew] <;> omega))))) (NdK.stay (Nat.le_refl _) (But.same (lb := bb) (by repeat (first | with_reducible exact But.refl _ _ | with_reducible refine But.alloc ?_ _ | (with_reducible refine But.set1 ?_ ?_ _ _; rotate_left; (first | omega | (simp only [World.size_alloc, World.size_setCell, size_drewN, World.size_drew] <;> omega))) | with_reducible refine But.drew ?_ | with_reducible refine But.drewN ?_ _ | with_reducible refine But.trans ?_ (by assumption))) (by (first | omega | (simp only [World.size_alloc, World.size_setCell, size_drewN, World.size_drew] <;> omega))) (by (first | omega | (simp only [World.size_alloc, World.size_setCell, size_drewN, World.size_drew] <;> omega)))) _ _ hxw) 0 h (by rw [HXK.out]; rfl)).mono ?_
        rintro e w2 ⟨hv2, rfl, hk2, hs2, hb2⟩
        obtain ⟨ha2, hcap2, hv2', -, -⟩ := hk2.slice
        subst hv2'
        have z2 := hb2.le
        try simp only [World.size_alloc, World.size_setCell, size_drewN, World.size_drew] at z2
        obtain ⟨c2_0, f2_0, l2_0, n2_0, m2_0⟩ := hb2.facts (b := w1.heap.size) (by (first | omega | (simp only [World.size_alloc, World.size_setCell, size_drewN, World.size_drew] <;> omega))) (by (first | omega | (simp only [World.size_alloc, World.size_setCell, size_drewN, World.size_drew] <;> omega)))
        obtain ⟨c2_1, f2_1, l2_1, n2_1, m2_1⟩ := hb2.facts (b := wr.heap.size) (by (first | omega | (simp only [World.size_alloc, World.size_setCell, size_drewN, World.size_drew] <;> omega))) (by (first | omega | (simp only [World.size_alloc, World.size_setCell, size_drewN, World.size_drew] <;> omega)))
        go_wp2_with fail
        refine (next_any (N := N) (m := m) (by repeat (first | with_reducible assumption | with_reducible apply Bst.alloc | with_reducible apply Bst.drew | with_reducible apply Bst.drewN | (with_reducible apply Bst.set1; rotate_left; (first | omega | (simp only [World.size_alloc, World.size_setCell, size_drewN, World.size_drew] <;> omega)))))).mono ?_
        rintro e w3 ⟨rfl, hs3, hb3⟩
        have z3 := hb3.le
        try simp only [World.size_alloc, World.size_setCell, size_drewN, World.size_drew] at z3
        obtain ⟨c3_0, f3_0, l3_0, n3_0, m3_0⟩ := hb3.facts (b := w1.heap.size) (by (first | omega | (simp only [World.size_alloc, World.size_setCell, size_drewN, World.size_drew] <;> omega))) (by (first | omega | (simp only [World.size_alloc, World.size_setCell, size_drewN, World.size_drew] <;> omega)))
        obtain ⟨c3_1, f3_1, l3_1, n3_1, m3_1⟩ := hb3.facts (b := wr.heap.size) (by (first | omega | (simp only [World.size_alloc, World.size_setCell, size_drewN, World.size_drew] <;> omega))) (by (first | omega | (simp only [World.size_alloc, World.size_setCell, size_drewN, World.size_drew] <;> omega)))
        obtain ⟨c3_2, f3_2, l3_2, n3_2, m3_2⟩ := hb3.facts (b := w2.heap.size) (by (first | omega | (simp only [World.size_alloc, World.size_setCell, size_drewN, World.size_drew] <;> omega))) (by (first | omega | (simp only [World.size_alloc, World.size_setCell, size_drewN, World.size_drew] <;> omega)))
        go_wp2_with fail
        refine (HH.out _ _ N bb m _ (NdK.stay (Nat.le_refl _) (But.same (lb := bb) (by repeat (first | with_reducible exact But.refl _ _ | with_reducible refine But.alloc ?_ _ | (with_reducible refine But.set1 ?_ ?_ _ _; rotate_left; (first | omega | (simp only [World.size_alloc, World.size_setCell, size_drewN, World.size_drew] <;> omega))) | with_reducible refine But.drew ?_ | with_reducible refine But.drewN ?_ _ | with_reducible refine But.trans ?_ (by assumption))) (by (first | omega | (simp only [World.size_alloc, World.size_setCell, size_drewN, World.size_drew] <;> omega))) (by (first | omega | (simp only [World.size_alloc, World.size_setCell, size_drewN, World.size_drew] <;> omega)))) _ _ hk2) (by repeat (first | with_reducible assumption | with_reducible apply Bst.alloc | with_reducible apply Bst.drew | with_reducible apply Bst.drewN | (with_reducible apply Bst.set1; rotate_left; (first | omega | (simp only [World.size_alloc, World.size_setCell, size_drewN, World.size_drew] <;> omega)))))).mono ?_
        rintro e w4 ⟨v4, rfl, ho4, ha4, hs4, hb4⟩
        have hst4 := stores_of ho4
        unfold Stores at hst4
        have z4 := hb4.le
        try simp only [World.size_alloc, World.size_setCell, size_drewN, World.size_drew] at z4
        obtain ⟨c4_0, f4_0, l4_0, n4_0, m4_0⟩ := hb4.facts (b := w1.heap.size) (by (first | omega | (simp only [World.size_alloc, World.size_setCell, size_drewN, World.size_drew] <;> omega))) (by (first | omega | (simp only [World.size_alloc, World.size_setCell, size_drewN, World.size_drew] <;> omega)))
        obtain ⟨c4_1, f4_1, l4_1, n4_1, m4_1⟩ := hb4.facts (b := wr.heap.size) (by (first | omega | (simp only [World.size_alloc, World.size_setCell, size_drewN, World.size_drew] <;> omega))) (by (first | omega | (simp only [World.size_alloc, World.size_setCell, size_drewN, World.size_drew] <;> omega)))
        obtain ⟨c4_2, f4_2, l4_2, n4_2, m4_2⟩ := hb4.facts (b := w3.heap.size) (by (first | omega | (simp only [World.size_alloc, World.size_setCell, size_drewN, World.size_drew] <;> omega))) (by (first | omega | (simp only [World.size_alloc, World.size_setCell, size_drewN, World.size_drew] <;> omega)))
        go_wp2_with fail
        rw [hst4 w4 w3.heap.size 1 (by simp [c4_2]) (by simp [f4_2])]
        go_wp2_with fail
        refine (next_any (N := N) (m := m) (by repeat (first | with_reducible assumption | with_reducible apply Bst.alloc | with_reducible apply Bst.drew | with_reducible apply Bst.drewN | (with_reducible apply Bst.set1; rotate_left; (first | omega | (simp only [World.size_alloc, World.size_setCell, size_drewN, World.size_drew] <;> omega)))))).mono ?_
        rintro e w5 ⟨rfl, hs5, hb5⟩
        have z5 := hb5.le
        try simp only [World.size_alloc, World.size_setCell, size_drewN, World.size_drew] at z5
        obtain ⟨c5_0, f5_0, l5_0, n5_0, m5_0⟩ := hb5.facts (b := w1.heap.size) (by (first | omega | (simp only [World.size_alloc, World.size_setCell, size_drewN, World.size_drew] <;> omega))) (by (first | omega | (simp only [World.size_alloc, World.size_setCell, size_drewN, World.size_drew] <;> omega)))
        obtain ⟨c5_1, f5_1, l5_1, n5_1, m5_1⟩ := hb5.facts (b := wr.heap.size) (by (first | omega | (simp only [World.size_alloc, World.size_setCell, size_drewN, World.size_drew] <;> omega))) (by (first | omega | (simp only [World.size_alloc, World.size_setCell, size_drewN, World.size_drew] <;> omega)))
        obtain ⟨c5_2, f5_2, l5_2, n5_2, m5_2⟩ := hb5.facts (b := w3.heap.size) (by (first | omega | (simp only [World.size_alloc, World.size_setCell, size_drewN, World.size_drew] <;> omega))) (by (first | omega | (simp only [World.size_alloc, World.size_setCell, size_drewN, World.size_drew] <;> omega)))
        go_wp2_with fail
        refine (rest_b (N := N) (m := m) (by repeat (first | with_reducible assumption | with_reducible apply Bst.alloc | with_reducible apply Bst.drew | with_reducible apply Bst.drewN | (with_reducible apply Bst.set1; rotate_left; (first | omega | (simp only [World.size_alloc, World.size_setCell, size_drewN, World.size_drew] <;> omega))))) (NdK.stay (Nat.le_refl _) (But.same (lb := bb) (by repeat (first | with_reducible exact But.refl _ _ | with_reducible refine But.alloc ?_ _ | (with_reducible refine But.set1 ?_ ?_ _ _; rotate_left; (first | omega | (simp only [World.size_alloc, World.size_setCell, size_drewN, World.size_drew] <;> omega))) | with_reducible refine But.drew ?_ | with_reducible refine But.drewN ?_ _ | with_reducible refine But.trans ?_ (by assumption))) (by (first | omega | (simp only [World.size_alloc, World.size_setCell, size_drewN, World.size_drew] <;> omega))) (by (first | omega | (simp only [World.size_alloc, World.size_setCell, size_drewN, World.size_drew] <;> omega)))) _ _ hxw)).mono ?_
        rintro e w6 ⟨sv, rfl, hk6, hs6, hb6⟩
        rw [HXK.out] at hk6
        simp only [List.tail_cons] at hk6
        have z6 := hb6.le
        try simp only [World.size_alloc, World.size_setCell, size_drewN, World.size_drew] at z6
        obtain ⟨c6_0, f6_0, l6_0, n6_0, m6_0⟩ := hb6.facts (b := w1.heap.size) (by (first | omega | (simp only [World.size_alloc, World.size_setCell, size_drewN, World.size_drew] <;> omega))) (by (first | omega | (simp only [World.size_alloc, World.size_setCell, size_drewN, World.size_drew] <;> omega)))
        obtain ⟨c6_1, f6_1, l6_1, n6_1, m6_1⟩ := hb6.facts (b := w3.heap.size) (by (first | omega | (simp only [World.size_alloc, World.size_setCell, size_drewN, World.size_drew] <;> omega))) (by (first | omega | (simp only [World.size_alloc, World.size_setCell, size_drewN, World.size_drew] <;> omega)))
        go_wp2_with fail
        refine (stmts_b bs HB.out hbl _ _ N bb m _ hk6 (by repeat (first | with_reducible assumption | with_reducible apply Bst.alloc | with_reducible apply Bst.drew | with_reducible apply Bst.drewN | (with_reducible apply Bst.set1; rotate_left; (first | omega | (simp only [World.size_alloc, World.size_setCell, size_drewN, World.size_drew] <;> omega)))))).mono ?_
        rintro e w7 ⟨av, rfl, ha7, hs7, hb7⟩
        obtain ⟨ba, bn, bc, rfl⟩ := ha7.slice
        have z7 := hb7.le
        try simp only [World.size_alloc, World.size_setCell, size_drewN, World.size_drew] at z7
        obtain ⟨c7_0, f7_0, l7_0, n7_0, m7_0⟩ := hb7.facts (b := w1.heap.size) (by (first | omega | (simp only [World.size_alloc, World.size_setCell, size_drewN, World.size_drew] <;> omega))) (by (first | omega | (simp only [World.size_alloc, World.size_setCell, size_drewN, World.size_drew] <;> omega)))
        obtain ⟨c7_1, f7_1, l7_1, n7_1, m7_1⟩ := hb7.facts (b := w3.heap.size) (by (first | omega | (simp only [World.size_alloc, World.size_setCell, size_drewN, World.size_drew] <;> omega))) (by (first | omega | (simp only [World.size_alloc, World.size_setCell, size_drewN, World.size_drew] <;> omega)))
        go_wp2_with (first
          | (at_builtin
             have hbX : But bb wr ((w7.setCell ⟨w3.heap.size, 3, none⟩ (.slice ba bn bc)).alloc (.cells #[.iface 208 (.pointer (some ⟨w3.heap.size, 0, none⟩))] 49)) := (by repeat (first | with_reducible exact But.refl _ _ | with_reducible refine But.alloc ?_ _ | (with_reducible refine But.set1 ?_ ?_ _ _; rotate_left; (first | omega | (simp only [World.size_alloc, World.size_setCell, size_drewN, World.size_drew] <;> omega))) | with_reducible refine But.drew ?_ | with_reducible refine But.drewN ?_ _ | with_reducible refine But.trans ?_ (by assumption)))
             refine wpList_append_lies _ rfl _ _ 193 rfl (w1.heap.size + 1) 49 i0 .nilIface 1 16 under_stmts hi hz0 hz1 hz2 rfl (by decide) _ _ _ rfl (HO.out.kept hbX (Or.inr (fun e => by have := HO.out.lt bb e; omega))) ⟨w7.heap.size, 0, none⟩ 1 1 [.iface 208 (.pointer (some ⟨w3.heap.size, 0, none⟩))] rfl rfl (by have hq := cell_one_new (w7.setCell ⟨w3.heap.size, 3, none⟩ (.slice ba bn bc)) (.iface 208 (.pointer (some ⟨w3.heap.size, 0, none⟩))) 49; simpa using hq) (fun u hu => by simp at hu; subst hu; rfl) (by decide) (by unfold maxLen; omega) (by omega) (by (first | omega | (simp only [World.size_alloc, World.size_setCell, size_drewN, World.size_drew] <;> omega))) _ rfl ?_
             intro g cap4 w8 hown4 hgrow4 hat4 hlt4
             have hno : v.ownBlock ≠ some w1.heap.size := fun e => by have := (HO.out.lt _ e).1; omega
             have hb8 : w8.heap[w1.heap.size]? = wr.heap[w1.heap.size]? := (hgrow4.block _ (by (first | omega | (simp only [World.size_alloc, World.size_setCell, size_drewN, World.size_drew] <;> omega))) (fun e => hno e.symm)).trans (hbX.block _ hal (fun e => by injection e; omega))
             have c8 : ∀ j, w8.cell? ⟨w1.heap.size, j, none⟩ = wr.cell? ⟨w1.heap.size, j, none⟩ := fun j => World.cell?_of_block hb8
             have f8 : ∀ j, w8.frozen? ⟨w1.heap.size, j, none⟩ = wr.frozen? ⟨w1.heap.size, j, none⟩ := fun j => World.frozen?_of_block hb8))
        have HG := hide (show _ ∧ _ ∧ _ from ⟨hown4, hgrow4, hat4⟩)
        clear hown4 hgrow4 hat4
        go_wp2_with fail
        go_roundw
        case rel =>
          obtain ⟨hown4, hgrow4, hat4⟩ := HG.out
          have hcl : bCl true x li = mkComm li (optB h li.tail (bS h li.tail)) (bSs bs (optB h li.tail (bS h li.tail)).2.tail) := bCl_comm x h bs HXK.out li
          have haC : At (In w2.heap.size (w7.setCell ⟨w3.heap.size, 3, none⟩ (.slice ba bn bc)).heap.size) (w7.setCell ⟨w3.heap.size, 3, none⟩ (.slice ba bn bc)) (bCl true x li).1 (.iface 208 (.pointer (some ⟨w3.heap.size, 0, none⟩))) := by
            rw [hcl]
            unfold mkComm
            dsimp only
            exact At_commC.2 ⟨w3.heap.size, rfl, ⟨by (first | omega | (simp only [World.size_alloc, World.size_setCell, size_drewN, World.size_drew] <;> omega)), by (first | omega | (simp only [World.size_alloc, World.size_setCell, size_drewN, World.size_drew] <;> omega))⟩, _, _, by go_cell, by go_cell, ha4.wide (by repeat (first | with_reducible exact MidI.refl _ _ _ | (with_reducible refine MidI.alloc ?_ ?_ _; rotate_left; (first | omega | (simp only [World.size_alloc, World.size_setCell, size_drewN, World.size_drew] <;> omega))) | (with_reducible refine MidI.set1 ?_ ?_ _ _; rotate_left; (first | omega | (simp only [World.size_alloc, World.size_setCell, size_drewN, World.size_drew] <;> omega))) | with_reducible refine MidI.drew ?_ | with_reducible refine MidI.drewN ?_ _ | (with_reducible refine MidI.but ?_ (by assumption) ?_ ?_; rotate_left; (first | omega | (simp only [World.size_alloc, World.size_setCell, size_drewN, World.size_drew] <;> omega)); (first | omega | (simp only [World.size_alloc, World.size_setCell, size_drewN, World.size_drew] <;> omega))))) (by (first | omega | (simp only [World.size_alloc, World.size_setCell, size_drewN, World.size_drew] <;> omega))) (by (first | omega | (simp only [World.size_alloc, World.size_setCell, size_drewN, World.size_drew] <;> omega))), by go_cell, by go_cell, ha7.wide (by repeat (first | with_reducible exact MidI.refl _ _ _ | (with_reducible refine MidI.alloc ?_ ?_ _; rotate_left; (first | omega | (simp only [World.size_alloc, World.size_setCell, size_drewN, World.size_drew] <;> omega))) | (with_reducible refine MidI.set1 ?_ ?_ _ _; rotate_left; (first | omega | (simp only [World.size_alloc, World.size_setCell, size_drewN, World.size_drew] <;> omega))) | with_reducible refine MidI.drew ?_ | with_reducible refine MidI.drewN ?_ _ | (with_reducible refine MidI.but ?_ (by assumption) ?_ ?_; rotate_left; (first | omega | (simp only [World.size_alloc, World.size_setCell, size_drewN, World.size_drew] <;> omega)); (first | omega | (simp only [World.size_alloc, World.size_setCell, size_drewN, World.size_drew] <;> omega))))) (by (first | omega | (simp only [World.size_alloc, World.size_setCell, size_drewN, World.size_drew] <;> omega))) (by (first | omega | (simp only [World.size_alloc, World.size_setCell, size_drewN, World.size_drew] <;> omega)))⟩
          have hsC : Bst N bb m (bCl true x li).2 ((w7.setCell ⟨w3.heap.size, 3, none⟩ (.slice ba bn bc)).alloc (.cells #[.iface 208 (.pointer (some ⟨w3.heap.size, 0, none⟩))] 49)) := by
            rw [hcl]
            unfold mkComm
            dsimp only
            exact (by repeat (first | with_reducible assumption | with_reducible apply Bst.alloc | with_reducible apply Bst.drew | with_reducible apply Bst.drewN | (with_reducible apply Bst.set1; rotate_left; (first | omega | (simp only [World.size_alloc, World.size_setCell, size_drewN, World.size_drew] <;> omega)))))
          exact ClRel.snoc (by omega) (by omega) z0 hlt (by go_num) HF.out (by simp only [HD.out]; simp [bCs]) HO.out HE.out hbr hal h0 h1 h2 hf hbX (by (first | omega | (simp only [World.size_alloc, World.size_setCell, size_drewN, World.size_drew] <;> omega))) haC (by repeat (first | with_reducible exact MidI.refl _ _ _ | (with_reducible refine MidI.alloc ?_ ?_ _; rotate_left; (first | omega | (simp only [World.size_alloc, World.size_setCell, size_drewN, World.size_drew] <;> omega))) | (with_reducible refine MidI.set1 ?_ ?_ _ _; rotate_left; (first | omega | (simp only [World.size_alloc, World.size_setCell, size_drewN, World.size_drew] <;> omega))) | with_reducible refine MidI.drew ?_ | with_reducible refine MidI.drewN ?_ _ | (with_reducible refine MidI.but ?_ (by assumption) ?_ ?_; rotate_left; (first | omega | (simp only [World.size_alloc, World.size_setCell, size_drewN, World.size_drew] <;> omega)); (first | omega | (simp only [World.size_alloc, World.size_setCell, size_drewN, World.size_drew] <;> omega))))) (by (first | omega | (simp only [World.size_alloc, World.size_setCell, size_drewN, World.size_drew] <;> omega))) hsC hown4 hgrow4 hat4
        case measure => simp [intOf]; omega
      · have hie : i = ks.length := by omega
        subst hie
        have HS1 := hide hF
        clear hF
        have HF1 := hide hf
        obtain ⟨va, vn, vc, hvv⟩ : ∃ a n c, v = .slice a n c := by rcases hown.2 with ⟨rfl, _⟩ | ⟨_, _, _, rfl, _⟩ <;> exact ⟨_, _, _, rfl⟩
        subst hvv
        go_wp2_with fail
        refine (next_any (N := N) (m := m) (by repeat (first | with_reducible assumption | with_reducible apply Bst.alloc | with_reducible apply Bst.drew | with_reducible apply Bst.drewN | (with_reducible apply Bst.set1; rotate_left; (first | omega | (simp only [World.size_alloc, World.size_setCell, size_drewN, World.size_drew] <;> omega)))))).mono ?_
        rintro e w2 ⟨rfl, hs2, hb2⟩
        have z2 := hb2.le
        try simp only [World.size_alloc, World.size_setCell, size_drewN, World.size_drew] at z2
        obtain ⟨c2_0, f2_0, l2_0, n2_0, m2_0⟩ := hb2.facts (b := w1.heap.size) (by (first | omega | (simp only [World.size_alloc, World.size_setCell, size_drewN, World.size_drew] <;> omega))) (by (first | omega | (simp only [World.size_alloc, World.size_setCell, size_drewN, World.size_drew] <;> omega)))
        go_wp2_with fail
        go_ret
        have hF := HS1.out
        simp only [List.drop_length, List.drop_zero, bCs, List.append_nil] at hF
        unfold PPost
        rw [HC.out, hF]
        unfold mkBlock
        dsimp only
        refine ⟨_, rfl, ?_, (by repeat (first | with_reducible assumption | with_reducible apply Bst.alloc | with_reducible apply Bst.drew | with_reducible apply Bst.drewN | (with_reducible apply Bst.set1; rotate_left; (first | omega | (simp only [World.size_alloc, World.size_setCell, size_drewN, World.size_drew] <;> omega))))), (by repeat (first | with_reducible exact But.refl _ _ | with_reducible refine But.alloc ?_ _ | (with_reducible refine But.set1 ?_ ?_ _ _; rotate_left; (first | omega | (simp only [World.size_alloc, World.size_setCell, size_drewN, World.size_drew] <;> omega))) | with_reducible refine But.drew ?_ | with_reducible refine But.drewN ?_ _ | with_reducible refine But.trans ?_ (by assumption)))⟩
        have hS : AtS (In (w1.heap.size + 1) wr.heap.size) wr xs (.slice va vn vc) := atS_of hown (hels.stay (fun k hk => ⟨hk.1, hk.2.1⟩) (Mid.refl _ _)) fun g hg => ⟨(hown.lt g hg).1, (hown.lt g hg).2⟩
        exact At_block.2 ⟨w1.heap.size, rfl, ⟨by (first | omega | (simp only [World.size_alloc, World.size_setCell, size_drewN, World.size_drew] <;> omega)), by (first | omega | (simp only [World.size_alloc, World.size_setCell, size_drewN, World.size_drew] <;> omega))⟩, _, by go_cell, by go_cell, hS.wide (by repeat (first | with_reducible exact MidI.refl _ _ _ | (with_reducible refine MidI.alloc ?_ ?_ _; rotate_left; (first | omega | (simp only [World.size_alloc, World.size_setCell, size_drewN, World.size_drew] <;> omega))) | (with_reducible refine MidI.set1 ?_ ?_ _ _; rotate_left; (first | omega | (simp only [World.size_alloc, World.size_setCell, size_drewN, World.size_drew] <;> omega))) | with_reducible refine MidI.drew ?_ | with_reducible refine MidI.drewN ?_ _ | (with_reducible refine MidI.but ?_ (by assumption) ?_ ?_; rotate_left; (first | omega | (simp only [World.size_alloc, World.size_setCell, size_drewN, World.size_drew] <;> omega)); (first | omega | (simp only [World.size_alloc, World.size_setCell, size_drewN, World.size_drew] <;> omega))))) (by (first | omega | (simp only [World.size_alloc, World.size_setCell, size_drewN, World.size_drew] <;> omega))) (by (first | omega | (simp only [World.size_alloc, World.size_setCell, size_drewN, World.size_drew] <;> omega))), by go_cell⟩

set_option maxRecDepth 100000 in
set_option maxHeartbeats 4000000 in
theorem clauses_case (n : Nd) (hks : ∀ c, c ∈ n.kids → Clcase c) (hlen : n.kids.length ≤ 400) (kv : Value) (w : World) (N bb m : Nat) (l : List Int) (hn : NdK N w n kv) (hs0 : Bst N bb m l w) :
    Calls Tryz.prog 76 #[.pointer (some ⟨bb, 0, none⟩), .agg #[.string n.kind, .string n.text, kv], .bool false] w (PPost 98 N bb m (bC false n l) w) := by
  obtain ⟨i0, hi, hz0, hz1, hz2⟩ := info_parts info_stmt
  have HK := hide hks
  clear hks
  obtain ⟨k, t, ks⟩ := n
  obtain ⟨a, cap, hv, -, -⟩ := hn.slice
  subst hv
  have hN1 := hs0.hN
  have hN2 := hs0.hb
  have hN3 := hs0.hm
  have z0 := hs0.sz
  simp only [Nd.kids_mk] at hlen
  have hC : bC false (.mk k t ks) l = mkBlock l (bCs false ks l.tail) := by simp [bC]
  have HC := hide hC
  clear hC
  simp only [Nd.kids_mk, Nd.kind_mk, Nd.text_mk, List.length_cons, List.length_nil] at hn ⊢
  go_enter Tryz.func76, Tryz.ntmps76
  go_wp2_with fail
  refine (next_any (N := N) (m := m) (by repeat (first | with_reducible assumption | with_reducible apply Bst.alloc | with_reducible apply Bst.drew | with_reducible apply Bst.drewN | (with_reducible apply Bst.set1; rotate_left; (first | omega | (simp only [World.size_alloc, World.size_setCell, size_drewN, World.size_drew] <;> omega)))))).mono ?_
  rintro e w1 ⟨rfl, hs1, hb1⟩
  have z1 := hb1.le
  try simp only [World.size_alloc, World.size_setCell, size_drewN, World.size_drew] at z1
  obtain ⟨c1_0, f1_0, l1_0, n1_0, m1_0⟩ := hb1.facts (b := w.heap.size) (by (first | omega | (simp only [World.size_alloc, World.size_setCell, size_drewN, World.size_drew] <;> omega))) (by (first | omega | (simp only [World.size_alloc, World.size_setCell, size_drewN, World.size_drew] <;> omega)))
  go_wp2_with fail
  have hsl := NdK_iff.1 hn
  simp only [Nd.kids_mk] at hsl
  rcases hsl with ⟨hv, rfl⟩ | ⟨b, o, cap', hv, hc', hm', hr⟩
  · clear hv
    refine wp_loop_rounds 1 ?_
    rw [rounds_succ]
    go_wp2_with fail
    refine (next_any (N := N) (m := m) (by repeat (first | with_reducible assumption | with_reducible apply Bst.alloc | with_reducible apply Bst.drew | with_reducible apply Bst.drewN | (with_reducible apply Bst.set1; rotate_left; (first | omega | (simp only [World.size_alloc, World.size_setCell, size_drewN, World.size_drew] <;> omega)))))).mono ?_
    rintro e w2 ⟨rfl, hs2, hb2⟩
    have z2 := hb2.le
    try simp only [World.size_alloc, World.size_setCell, size_drewN, World.size_drew] at z2
    obtain ⟨c2_0, f2_0, l2_0, n2_0, m2_0⟩ := hb2.facts (b := w.heap.size) (by (first | omega | (simp only [World.size_alloc, World.size_setCell, size_drewN, World.size_drew] <;> omega))) (by (first | omega | (simp only [World.size_alloc, World.size_setCell, size_drewN, World.size_drew] <;> omega)))
    obtain ⟨c2_1, f2_1, l2_1, n2_1, m2_1⟩ := hb2.facts (b := w1.heap.size) (by (first | omega | (simp only [World.size_alloc, World.size_setCell, size_drewN, World.size_drew] <;> omega))) (by (first | omega | (simp only [World.size_alloc, World.size_setCell, size_drewN, World.size_drew] <;> omega)))
    go_wp2_with fail
    go_ret
    unfold PPost
    rw [HC.out]
    unfold mkBlock bCs
    dsimp only
    refine ⟨_, rfl, ?_, (by repeat (first | with_reducible assumption | with_reducible apply Bst.alloc | with_reducible apply Bst.drew | with_reducible apply Bst.drewN | (with_reducible apply Bst.set1; rotate_left; (first | omega | (simp only [World.size_alloc, World.size_setCell, size_drewN, World.size_drew] <;> omega))))), (by repeat (first | with_reducible exact But.refl _ _ | with_reducible refine But.alloc ?_ _ | (with_reducible refine But.set1 ?_ ?_ _ _; rotate_left; (first | omega | (simp only [World.size_alloc, World.size_setCell, size_drewN, World.size_drew] <;> omega))) | with_reducible refine But.drew ?_ | with_reducible refine But.drewN ?_ _ | with_reducible refine But.trans ?_ (by assumption)))⟩
    exact At_block.2 ⟨w1.heap.size, rfl, ⟨by (first | omega | (simp only [World.size_alloc, World.size_setCell, size_drewN, World.size_drew] <;> omega)), by (first | omega | (simp only [World.size_alloc, World.size_setCell, size_drewN, World.size_drew] <;> omega))⟩, _, by go_cell, by go_cell, Or.inl ⟨rfl, rfl⟩, by go_cell⟩
  · injection hv with e1 e2 e3
    subst e1 e3
    have HR := hide hr
    clear hr
    have HN := hide hn
    clear hn
    have hbA : But bb w (w1.alloc (.cells #[.int .i64 (hd l), .slice none 0 0, .int .i64 0] 195)) := (by repeat (first | with_reducible exact But.refl _ _ | with_reducible refine But.alloc ?_ _ | (with_reducible refine But.set1 ?_ ?_ _ _; rotate_left; (first | omega | (simp only [World.size_alloc, World.size_setCell, size_drewN, World.size_drew] <;> omega))) | with_reducible refine But.drew ?_ | with_reducible refine But.drewN ?_ _ | with_reducible refine But.trans ?_ (by assumption)))
    have hsA : Bst N bb m l.tail (w1.alloc (.cells #[.int .i64 (hd l), .slice none 0 0, .int .i64 0] 195)) := (by repeat (first | with_reducible assumption | with_reducible apply Bst.alloc | with_reducible apply Bst.drew | with_reducible apply Bst.drewN | (with_reducible apply Bst.set1; rotate_left; (first | omega | (simp only [World.size_alloc, World.size_setCell, size_drewN, World.size_drew] <;> omega)))))
    have hcA : ∀ j, (w1.alloc (.cells #[.int .i64 (hd l), .slice none 0 0, .int .i64 0] 195)).frozen? ⟨w1.heap.size, j, none⟩ = false := by intro j; exact World.frozen?_alloc_new _ _ _ _
    have HcA := hide hcA
    clear hcA
    have c0 : (w1.alloc (.cells #[.int .i64 (hd l), .slice none 0 0, .int .i64 0] 195)).cell? ⟨w1.heap.size, 0, none⟩ = some (.int .i64 (hd l)) := by go_cell
    have c1 : (w1.alloc (.cells #[.int .i64 (hd l), .slice none 0 0, .int .i64 0] 195)).cell? ⟨w1.heap.size, 1, none⟩ = some (.slice none 0 0) := by go_cell
    have c2 : (w1.alloc (.cells #[.int .i64 (hd l), .slice none 0 0, .int .i64 0] 195)).cell? ⟨w1.heap.size, 2, none⟩ = some (.int .i64 0) := by go_cell
    have z0' : w.heap.size ≤ w1.heap.size := by omega
    have HA := hide (show _ ∧ _ ∧ _ from ⟨c0, c1, c2⟩)
    clear c0 c1 c2
    go_loopw [21] (fun c wr => ClRel 49 N bb m (fun i li => bCs false (ks.drop i) li) ks.length l.tail w1.heap.size (hd l) w c wr) (fun c _ => ks.length - (intOf c).toNat)
    case atStart => exact ⟨.slice none 0 0, 0, l.tail, [], [], Nat.zero_le _, rfl, by simp, World.ownsRow_nil _ _ _ _, ⟨rfl, fun j a u h => by simp at h⟩, hsA, hbA, HA.out.1, HA.out.2.1, HA.out.2.2, HcA.out, by simp⟩
    case round =>
      obtain ⟨v, i, li, xs, vs, hin, rfl, hF, hown, hels, hsr, hbr, h0, h1, h2, hf, hal⟩ := hrel
      have hzr := hbr.le
      by_cases hlt : i < ks.length
      · obtain ⟨x, hx⟩ : ∃ x, ks[i]? = some x := ⟨ks[i], by simp⟩
        obtain ⟨xv, hbn, c0, c1, c2, hkn⟩ := HR.out.get hx
        obtain ⟨xa, xcap, hxv, -, -⟩ := hkn.slice
        subst hxv
        have s0 := (hbr.at (b := b) (by omega) (by omega) (o + 3 * i)).trans c0
        have s1 := (hbr.at (b := b) (by omega) (by omega) (o + 3 * i + 1)).trans c1
        have s2 := (hbr.at (b := b) (by omega) (by omega) (o + 3 * i + 2)).trans c2
        rw [Nat.mul_comm] at s0 s1 s2
        have hxw : NdK N wr x (.slice xa x.kids.length xcap) := NdK.stay (Nat.le_refl _) (But.same (lb := bb) hbr (by omega) hN2) _ _ hkn
        obtain ⟨h, bs, hxk, hho, hhl, hbs, hbl⟩ := HK.out x (List.mem_of_getElem? hx)
        have hdrop : ks.drop i = x :: ks.drop (i + 1) := by
          rw [List.drop_eq_getElem_cons hlt]
          rw [List.getElem?_eq_getElem hlt] at hx
          injection hx with hx
          rw [hx]
        have HD := hide hdrop
        have HXK := hide hxk
        have HF := hide hF
        have HO := hide hown
        have HE := hide hels
        have HH := hide hho
        have HB := hide hbs
        clear hho hbs
        have nad : ¬ w1.heap.size = wr.heap.size := by omega
        have nad' : ¬ wr.heap.size = w1.heap.size := by omega
        clear hdrop hF hown hels c0 c1 c2 hkn hx hxk
        go_wp2_with fail
        refine (kid_b (N := N) (m := m) (by repeat (first | with_reducible assumption | with_reducible apply Bst.alloc | with_reducible apply Bst.drew | with_reducible apply Bst.drewN | (with_reducible apply Bst.set1; rotate_left; (first | omega | (simp only [World.size_alloc, World.size_setCell, size_drewN, World.size_drew] <;> omega))))) (NdK.stay (Nat.le_refl _) (But.same (lb := bb) (by repeat (first | with_reducible exact But.refl _ _ | with_reducible refine But.alloc ?_ _ | (with_reducible refine But.set1 ?_ ?_ _ _; rotate_left; (first | omega | (simp only [World.size_alloc, World.size_setCell, size_drewN, World.size_drew] <;> omega))) | with_reducible refine But.drew ?_ | with_reducible refine But.drewN ?_ _ | with_reducible refine But.trans ?_ (by assumption))) (by (first | omega | (simp only [World.size_alloc, World.size_setCell, size_drewN, World.size_drew] <;> omega))) (by (first | omega | (simp only [World.size_alloc, World.size_setCell, size_drewN, World.size_drew] <;> omega)))) _ _ hxw) 0 h (by rw [HXK.out]; rfl)).mono ?_
        rintro e w2 ⟨hv2, rfl, hk2, hs2, hb2⟩
        obtain ⟨ha2, hcap2, hv2', -, -⟩ := hk2.slice
        subst hv2'
        have z2 := hb2.le
        try simp only [World.size_alloc, World.size_setCell, size_drewN, World.size_drew] at z2
        obtain ⟨c2_0, f2_0, l2_0, n2_0, m2_0⟩ := hb2.facts (b := w1.heap.size) (by (first | omega | (simp only [World.size_alloc, World.size_setCell, size_drewN, World.size_drew] <;> omega))) (by (first | omega | (simp only [World.size_alloc, World.size_setCell, size_drewN, World.size_drew] <;> omega)))
        obtain ⟨c2_1, f2_1, l2_1, n2_1, m2_1⟩ := hb2.facts (b := wr.heap.size) (by (first | omega | (simp only [World.size_alloc, World.size_setCell, size_drewN, World.size_drew] <;> omega))) (by (first | omega | (simp only [World.size_alloc, World.size_setCell, size_drewN, World.size_drew] <;> omega)))
        go_wp2_with fail
        refine (next_any (N := N) (m := m) (by repeat (first | with_reducible assumption | with_reducible apply Bst.alloc | with_reducible apply Bst.drew | with_reducible apply Bst.drewN | (with_reducible apply Bst.set1; rotate_left; (first | omega | (simp only [World.size_alloc, World.size_setCell, size_drewN, World.size_drew] <;> omega)))))).mono ?_
        rintro e w3 ⟨rfl, hs3, hb3⟩
        have z3 := hb3.le
        try simp only [World.size_alloc, World.size_setCell, size_drewN, World.size_drew] at z3
        obtain ⟨c3_0, f3_0, l3_0, n3_0, m3_0⟩ := hb3.facts (b := w1.heap.size) (by (first | omega | (simp only [World.size_alloc, World.size_setCell, size_drewN, World.size_drew] <;> omega))) (by (first | omega | (simp only [World.size_alloc, World.size_setCell, size_drewN, World.size_drew] <;> omega)))
        obtain ⟨c3_1, f3_1, l3_1, n3_1, m3_1⟩ := hb3.facts (b := wr.heap.size) (by (first | omega | (simp only [World.size_alloc, World.size_setCell, size_drewN, World.size_drew] <;> omega))) (by (first | omega | (simp only [World.size_alloc, World.size_setCell, size_drewN, World.size_drew] <;> omega)))
        obtain ⟨c3_2, f3_2, l3_2, n3_2, m3_2⟩ := hb3.facts (b := w2.heap.size) (by (first | omega | (simp only [World.size_alloc, World.size_setCell, size_drewN, World.size_drew] <;> omega))) (by (first | omega | (simp only [World.size_alloc, World.size_setCell, size_drewN, World.size_drew] <;> omega)))
        go_wp2_with fail
        have hkh : NdK N (w3.alloc (.cells #[.int .i64 (hd li), .slice none 0 0, .int .i64 0, .slice none 0 0] 201)) h (.slice ha2 h.kids.length hcap2) := (NdK.stay (Nat.le_refl _) (But.same (lb := bb) (by repeat (first | with_reducible exact But.refl _ _ | with_reducible refine But.alloc ?_ _ | (with_reducible refine But.set1 ?_ ?_ _ _; rotate_left; (first | omega | (simp only [World.size_alloc, World.size_setCell, size_drewN, World.size_drew] <;> omega))) | with_reducible refine But.drew ?_ | with_reducible refine But.drewN ?_ _ | with_reducible refine But.trans ?_ (by assumption))) (by (first | omega | (simp only [World.size_alloc, World.size_setCell, size_drewN, World.size_drew] <;> omega))) (by (first | omega | (simp only [World.size_alloc, World.size_setCell, size_drewN, World.size_drew] <;> omega)))) _ _ hk2)
        refine (exprs_b h.kids HH.out hhl _ _ N bb m _ (NdK_iff.1 hkh) (by repeat (first | with_reducible assumption | with_reducible apply Bst.alloc | with_reducible apply Bst.drew | with_reducible apply Bst.drewN | (with_reducible apply Bst.set1; rotate_left; (first | omega | (simp only [World.size_alloc, World.size_setCell, size_drewN, World.size_drew] <;> omega)))))).mono ?_
        rintro e w4 ⟨v4, rfl, ha4, hs4, hb4⟩
        obtain ⟨ea, en, ec, rfl⟩ := ha4.slice
        have z4 := hb4.le
        try simp only [World.size_alloc, World.size_setCell, size_drewN, World.size_drew] at z4
        obtain ⟨c4_0, f4_0, l4_0, n4_0, m4_0⟩ := hb4.facts (b := w1.heap.size) (by (first | omega | (simp only [World.size_alloc, World.size_setCell, size_drewN, World.size_drew] <;> omega))) (by (first | omega | (simp only [World.size_alloc, World.size_setCell, size_drewN, World.size_drew] <;> omega)))
        obtain ⟨c4_1, f4_1, l4_1, n4_1, m4_1⟩ := hb4.facts (b := wr.heap.size) (by (first | omega | (simp only [World.size_alloc, World.size_setCell, size_drewN, World.size_drew] <;> omega))) (by (first | omega | (simp only [World.size_alloc, World.size_setCell, size_drewN, World.size_drew] <;> omega)))
        obtain ⟨c4_2, f4_2, l4_2, n4_2, m4_2⟩ := hb4.facts (b := w3.heap.size) (by (first | omega | (simp only [World.size_alloc, World.size_setCell, size_drewN, World.size_drew] <;> omega))) (by (first | omega | (simp only [World.size_alloc, World.size_setCell, size_drewN, World.size_drew] <;> omega)))
        go_wp2_with fail
        refine (next_any (N := N) (m := m) (by repeat (first | with_reducible assumption | with_reducible apply Bst.alloc | with_reducible apply Bst.drew | with_reducible apply Bst.drewN | (with_reducible apply Bst.set1; rotate_left; (first | omega | (simp only [World.size_alloc, World.size_setCell, size_drewN, World.size_drew] <;> omega)))))).mono ?_
        rintro e w5 ⟨rfl, hs5, hb5⟩
        have z5 := hb5.le
        try simp only [World.size_alloc, World.size_setCell, size_drewN, World.size_drew] at z5
        obtain ⟨c5_0, f5_0, l5_0, n5_0, m5_0⟩ := hb5.facts (b := w1.heap.size) (by (first | omega | (simp only [World.size_alloc, World.size_setCell, size_drewN, World.size_drew] <;> omega))) (by (first | omega | (simp only [World.size_alloc, World.size_setCell, size_drewN, World.size_drew] <;> omega)))
        obtain ⟨c5_1, f5_1, l5_1, n5_1, m5_1⟩ := hb5.facts (b := wr.heap.size) (by (first | omega | (simp only [World.size_alloc, World.size_setCell, size_drewN, World.size_drew] <;> omega))) (by (first | omega | (simp only [World.size_alloc, World.size_setCell, size_drewN, World.size_drew] <;> omega)))
        obtain ⟨c5_2, f5_2, l5_2, n5_2, m5_2⟩ := hb5.facts (b := w3.heap.size) (by (first | omega | (simp only [World.size_alloc, World.size_setCell, size_drewN, World.size_drew] <;> omega))) (by (first | omega | (simp only [World.size_alloc, World.size_setCell, size_drewN, World.size_drew] <;> omega)))
        go_wp2_with fail
        refine (rest_b (N := N) (m := m) (by repeat (first | with_reducible assumption | with_reducible apply Bst.alloc | with_reducible apply Bst.drew | with_reducible apply Bst.drewN | (with_reducible apply Bst.set1; rotate_left; (first | omega | (simp only [World.size_alloc, World.size_setCell, size_drewN, World.size_drew] <;> omega))))) (NdK.stay (Nat.le_refl _) (But.same (lb := bb) (by repeat (first | with_reducible exact But.refl _ _ | with_reducible refine But.alloc ?_ _ | (with_reducible refine But.set1 ?_ ?_ _ _; rotate_left; (first | omega | (simp only [World.size_alloc, World.size_setCell, size_drewN, World.size_drew] <;> omega))) | with_reducible refine But.drew ?_ | with_reducible refine But.drewN ?_ _ | with_reducible refine But.trans ?_ (by assumption))) (by (first | omega | (simp only [World.size_alloc, World.size_setCell, size_drewN, World.size_drew] <;> omega))) (by (first | omega | (simp only [World.size_alloc, World.size_setCell, size_drewN, World.size_drew] <;> omega)))) _ _ hxw)).mono ?_
        rintro e w6 ⟨sv, rfl, hk6, hs6, hb6⟩
        rw [HXK.out] at hk6
        simp only [List.tail_cons] at hk6
        have z6 := hb6.le
        try simp only [World.size_alloc, World.size_setCell, size_drewN, World.size_drew] at z6
        obtain ⟨c6_0, f6_0, l6_0, n6_0, m6_0⟩ := hb6.facts (b := w1.heap.size) (by (first | omega | (simp only [World.size_alloc, World.size_setCell, size_drewN, World.size_drew] <;> omega))) (by (first | omega | (simp only [World.size_alloc, World.size_setCell, size_drewN, World.size_drew] <;> omega)))
        obtain ⟨c6_1, f6_1, l6_1, n6_1, m6_1⟩ := hb6.facts (b := w3.heap.size) (by (first | omega | (simp only [World.size_alloc, World.size_setCell, size_drewN, World.size_drew] <;> omega))) (by (first | omega | (simp only [World.size_alloc, World.size_setCell, size_drewN, World.size_drew] <;> omega)))
        go_wp2_with fail
        refine (stmts_b bs HB.out hbl _ _ N bb m _ hk6 (by repeat (first | with_reducible assumption | with_reducible apply Bst.alloc | with_reducible apply Bst.drew | with_reducible apply Bst.drewN | (with_reducible apply Bst.set1; rotate_left; (first | omega | (simp only [World.size_alloc, World.size_setCell, size_drewN, World.size_drew] <;> omega)))))).mono ?_
        rintro e w7 ⟨av, rfl, ha7, hs7, hb7⟩
        obtain ⟨ba, bn, bc, rfl⟩ := ha7.slice
        have z7 := hb7.le
        try simp only [World.size_alloc, World.size_setCell, size_drewN, World.size_drew] at z7
        obtain ⟨c7_0, f7_0, l7_0, n7_0, m7_0⟩ := hb7.facts (b := w1.heap.size) (by (first | omega | (simp only [World.size_alloc, World.size_setCell, size_drewN, World.size_drew] <;> omega))) (by (first | omega | (simp only [World.size_alloc, World.size_setCell, size_drewN, World.size_drew] <;> omega)))
        obtain ⟨c7_1, f7_1, l7_1, n7_1, m7_1⟩ := hb7.facts (b := w3.heap.size) (by (first | omega | (simp only [World.size_alloc, World.size_setCell, size_drewN, World.size_drew] <;> omega))) (by (first | omega | (simp only [World.size_alloc, World.size_setCell, size_drewN, World.size_drew] <;> omega)))
        go_wp2_with (first
          | (at_builtin
             have hbX : But bb wr ((w7.setCell ⟨w3.heap.size, 3, none⟩ (.slice ba bn bc)).alloc (.cells #[.iface 199 (.pointer (some ⟨w3.heap.size, 0, none⟩))] 49)) := (by repeat (first | with_reducible exact But.refl _ _ | with_reducible refine But.alloc ?_ _ | (with_reducible refine But.set1 ?_ ?_ _ _; rotate_left; (first | omega | (simp only [World.size_alloc, World.size_setCell, size_drewN, World.size_drew] <;> omega))) | with_reducible refine But.drew ?_ | with_reducible refine But.drewN ?_ _ | with_reducible refine But.trans ?_ (by assumption)))
             refine wpList_append_lies _ rfl _ _ 193 rfl (w1.heap.size + 1) 49 i0 .nilIface 1 16 under_stmts hi hz0 hz1 hz2 rfl (by decide) _ _ _ rfl (HO.out.kept hbX (Or.inr (fun e => by have := HO.out.lt bb e; omega))) ⟨w7.heap.size, 0, none⟩ 1 1 [.iface 199 (.pointer (some ⟨w3.heap.size, 0, none⟩))] rfl rfl (by have hq := cell_one_new (w7.setCell ⟨w3.heap.size, 3, none⟩ (.slice ba bn bc)) (.iface 199 (.pointer (some ⟨w3.heap.size, 0, none⟩))) 49; simpa using hq) (fun u hu => by simp at hu; subst hu; rfl) (by decide) (by unfold maxLen; omega) (by omega) (by (first | omega | (simp only [World.size_alloc, World.size_setCell, size_drewN, World.size_drew] <;> omega))) _ rfl ?_
             intro g cap4 w8 hown4 hgrow4 hat4 hlt4
             have hno : v.ownBlock ≠ some w1.heap.size := fun e => by have := (HO.out.lt _ e).1; omega
             have hb8 : w8.heap[w1.heap.size]? = wr.heap[w1.heap.size]? := (hgrow4.block _ (by (first | omega | (simp only [World.size_alloc, World.size_setCell, size_drewN, World.size_drew] <;> omega))) (fun e => hno e.symm)).trans (hbX.block _ hal (fun e => by injection e; omega))
             have c8 : ∀ j, w8.cell? ⟨w1.heap.size, j, none⟩ = wr.cell? ⟨w1.heap.size, j, none⟩ := fun j => World.cell?_of_block hb8
             have f8 : ∀ j, w8.frozen? ⟨w1.heap.size, j, none⟩ = wr.frozen? ⟨w1.heap.size, j, none⟩ := fun j => World.frozen?_of_block hb8))
        have HG := hide (show _ ∧ _ ∧ _ from ⟨hown4, hgrow4, hat4⟩)
        clear hown4 hgrow4 hat4
        go_wp2_with fail
        go_roundw
        case rel =>
          obtain ⟨hown4, hgrow4, hat4⟩ := HG.out
          have hcl : bCl false x li = mkCase li (bEs true h.kids li.tail) (bSs bs (bEs true h.kids li.tail).2.tail) := bCl_case x h bs HXK.out li
          have haC : At (In w2.heap.size (w7.setCell ⟨w3.heap.size, 3, none⟩ (.slice ba bn bc)).heap.size) (w7.setCell ⟨w3.heap.size, 3, none⟩ (.slice ba bn bc)) (bCl false x li).1 (.iface 199 (.pointer (some ⟨w3.heap.size, 0, none⟩))) := by
            rw [hcl]
            unfold mkCase
            dsimp only
            exact At_caseC.2 ⟨w3.heap.size, rfl, ⟨by (first | omega | (simp only [World.size_alloc, World.size_setCell, size_drewN, World.size_drew] <;> omega)), by (first | omega | (simp only [World.size_alloc, World.size_setCell, size_drewN, World.size_drew] <;> omega))⟩, _, _, by go_cell, by go_cell, ha4.wide (by repeat (first | with_reducible exact MidI.refl _ _ _ | (with_reducible refine MidI.alloc ?_ ?_ _; rotate_left; (first | omega | (simp only [World.size_alloc, World.size_setCell, size_drewN, World.size_drew] <;> omega))) | (with_reducible refine MidI.set1 ?_ ?_ _ _; rotate_left; (first | omega | (simp only [World.size_alloc, World.size_setCell, size_drewN, World.size_drew] <;> omega))) | with_reducible refine MidI.drew ?_ | with_reducible refine MidI.drewN ?_ _ | (with_reducible refine MidI.but ?_ (by assumption) ?_ ?_; rotate_left; (first | omega | (simp only [World.size_alloc, World.size_setCell, size_drewN, World.size_drew] <;> omega)); (first | omega | (simp only [World.size_alloc, World.size_setCell, size_drewN, World.size_drew] <;> omega))))) (by (first | omega | (simp only [World.size_alloc, World.size_setCell, size_drewN, World.size_drew] <;> omega))) (by (first | omega | (simp only [World.size_alloc, World.size_setCell, size_drewN, World.size_drew] <;> omega))), by go_cell, by go_cell, ha7.wide (by repeat (first | with_reducible exact MidI.refl _ _ _ | (with_reducible refine MidI.alloc ?_ ?_ _; rotate_left; (first | omega | (simp only [World.size_alloc, World.size_setCell, size_drewN, World.size_drew] <;> omega))) | (with_reducible refine MidI.set1 ?_ ?_ _ _; rotate_left; (first | omega | (simp only [World.size_alloc, World.size_setCell, size_drewN, World.size_drew] <;> omega))) | with_reducible refine MidI.drew ?_ | with_reducible refine MidI.drewN ?_ _ | (with_reducible refine MidI.but ?_ (by assumption) ?_ ?_; rotate_left; (first | omega | (simp only [World.size_alloc, World.size_setCell, size_drewN, World.size_drew] <;> omega)); (first | omega | (simp only [World.size_alloc, World.size_setCell, size_drewN, World.size_drew] <;> omega))))) (by (first | omega | (simp only [World.size_alloc, World.size_setCell, size_drewN, World.size_drew] <;> omega))) (by (first | omega | (simp only [World.size_alloc, World.size_setCell, size_drewN, World.size_drew] <;> omega)))⟩
          have hsC : Bst N bb m (bCl false x li).2 ((w7.setCell ⟨w3.heap.size, 3, none⟩ (.slice ba bn bc)).alloc (.cells #[.iface 199 (.pointer (some ⟨w3.heap.size, 0, none⟩))] 49)) := by
            rw [hcl]
            unfold mkCase
            dsimp only
            exact (by repeat (first | with_reducible assumption | with_reducible apply Bst.alloc | with_reducible apply Bst.drew | with_reducible apply Bst.drewN | (with_reducible apply Bst.set1; rotate_left; (first | omega | (simp only [World.size_alloc, World.size_setCell, size_drewN, World.size_drew] <;> omega)))))
          exact ClRel.snoc (by omega) (by omega) z0 hlt (by go_num) HF.out (by simp only [HD.out]; simp [bCs]) HO.out HE.out hbr hal h0 h1 h2 hf hbX (by (first | omega | (simp only [World.size_alloc, World.size_setCell, size_drewN, World.size_drew] <;> omega))) haC (by repeat (first | with_reducible exact MidI.refl _ _ _ | (with_reducible refine MidI.alloc ?_ ?_ _; rotate_left; (first | omega | (simp only [World.size_alloc, World.size_setCell, size_drewN, World.size_drew] <;> omega))) | (with_reducible refine MidI.set1 ?_ ?_ _ _; rotate_left; (first | omega | (simp only [World.size_alloc, World.size_setCell, size_drewN, World.size_drew] <;> omega))) | with_reducible refine MidI.drew ?_ | with_reducible refine MidI.drewN ?_ _ | (with_reducible refine MidI.but ?_ (by assumption) ?_ ?_; rotate_left; (first | omega | (simp only [World.size_alloc, World.size_setCell, size_drewN, World.size_drew] <;> omega)); (first | omega | (simp only [World.size_alloc, World.size_setCell, size_drewN, World.size_drew] <;> omega))))) (by (first | omega | (simp only [World.size_alloc, World.size_setCell, size_drewN, World.size_drew] <;> omega))) hsC hown4 hgrow4 hat4
        case measure => simp [intOf]; omega
      · have hie : i = ks.length := by omega
        subst hie
        have HS1 := hide hF
        clear hF
        have HF1 := hide hf
        obtain ⟨va, vn, vc, hvv⟩ : ∃ a n c, v = .slice a n c := by rcases hown.2 with ⟨rfl, _⟩ | ⟨_, _, _, rfl, _⟩ <;> exact ⟨_, _, _, rfl⟩
        subst hvv
        go_wp2_with fail
        refine (next_any (N := N) (m := m) (by repeat (first | with_reducible assumption | with_reducible apply Bst.alloc | with_reducible apply Bst.drew | with_reducible apply Bst.drewN | (with_reducible apply Bst.set1; rotate_left; (first | omega | (simp only [World.size_alloc, World.size_setCell, size_drewN, World.size_drew] <;> omega)))))).mono ?_
        rintro e w2 ⟨rfl, hs2, hb2⟩
        have z2 := hb2.le
        try simp only [World.size_alloc, World.size_setCell, size_drewN, World.size_drew] at z2
        obtain ⟨c2_0, f2_0, l2_0, n2_0, m2_0⟩ := hb2.facts (b := w1.heap.size) (by (first | omega | (simp only [World.size_alloc, World.size_setCell, size_drewN, World.size_drew] <;> omega))) (by (first | omega | (simp only [World.size_alloc, World.size_setCell, size_drewN, World.size_drew] <;> omega)))
        go_wp2_with fail
        go_ret
        have hF := HS1.out
        simp only [List.drop_length, List.drop_zero, bCs, List.append_nil] at hF
        unfold PPost
        rw [HC.out, hF]
        unfold mkBlock
        dsimp only
        refine ⟨_, rfl, ?_, (by repeat (first | with_reducible assumption | with_reducible apply Bst.alloc | with_reducible apply Bst.drew | with_reducible apply Bst.drewN | (with_reducible apply Bst.set1; rotate_left; (first | omega | (simp only [World.size_alloc, World.size_setCell, size_drewN, World.size_drew] <;> omega))))), (by repeat (first | with_reducible exact But.refl _ _ | with_reducible refine But.alloc ?_ _ | (with_reducible refine But.set1 ?_ ?_ _ _; rotate_left; (first | omega | (simp only [World.size_alloc, World.size_setCell, size_drewN, World.size_drew] <;> omega))) | with_reducible refine But.drew ?_ | with_reducible refine But.drewN ?_ _ | with_reducible refine But.trans ?_ (by assumption)))⟩
        have hS : AtS (In (w1.heap.size + 1) wr.heap.size) wr xs (.slice va vn vc) := atS_of hown (hels.stay (fun k hk => ⟨hk.1, hk.2.1⟩) (Mid.refl _ _)) fun g hg => ⟨(hown.lt g hg).1, (hown.lt g hg).2⟩
        exact At_block.2 ⟨w1.heap.size, rfl, ⟨by (first | omega | (simp only [World.size_alloc, World.size_setCell, size_drewN, World.size_drew] <;> omega)), by (first | omega | (simp only [World.size_alloc, World.size_setCell, size_drewN, World.size_drew] <;> omega))⟩, _, by go_cell, by go_cell, hS.wide (by repeat (first | with_reducible exact MidI.refl _ _ _ | (with_reducible refine MidI.alloc ?_ ?_ _; rotate_left; (first | omega | (simp only [World.size_alloc, World.size_setCell, size_drewN, World.size_drew] <;> omega))) | (with_reducible refine MidI.set1 ?_ ?_ _ _; rotate_left; (first | omega | (simp only [World.size_alloc, World.size_setCell, size_drewN, World.size_drew] <;> omega))) | with_reducible refine MidI.drew ?_ | with_reducible refine MidI.drewN ?_ _ | (with_reducible refine MidI.but ?_ (by assumption) ?_ ?_; rotate_left; (first | omega | (simp only [World.size_alloc, World.size_setCell, size_drewN, World.size_drew] <;> omega)); (first | omega | (simp only [World.size_alloc, World.size_setCell, size_drewN, World.size_drew] <;> omega))))) (by (first | omega | (simp only [World.size_alloc, World.size_setCell, size_drewN, World.size_drew] <;> omega))) (by (first | omega | (simp only [World.size_alloc, World.size_setCell, size_drewN, World.size_drew] <;> omega))), by go_cell⟩
end Go.Proofs.YtkkgfgllfbahlaaGreatFmt
