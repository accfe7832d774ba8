/- A region within a round of a range over a function, walked as a plain list of operations, in each of its orders.
ast.Preorder as an iterator: its closures; a loop over it that keeps rows of texts; what is asked of a round.
impl.Yields answers. -/
import Derived.Test.YtkkgfgllfbahlaaGreatFmtOrd
import Derived.RangeFuncNested
import Derived.OwnWalkIn
import Derived.TacticsInMore
import Derived.Test.YtkkgfgllfbahlaaGreatFmtPl
import Derived.Test.YtkkgfgllfbahlaaGreatFmtIn
import Derived.RangeFuncBox
import Derived.RangeFuncLeaves
set_option linter.unusedVariables false
set_option linter.unusedSimpArgs false
namespace Go.Proofs.YtkkgfgllfbahlaaGreatFmt
open Go Go.RowKit

section
variable {P : Program} {Q : Exit → Act → World → Prop} {n : Nat}

theorem upon_round {l : Nat} {o : Oper} {a : Act} {next next' : Act → World → Prop} (hn : ∀ a w, next a w → next' a w) : ∀ r : Result Next, o.upon P a next Q r → o.uponIn (Fence.wide.inRound l) n P a next' Q r
  | .ok (.value v) w', h => hn _ _ h
  | .ok .skip w', h => hn _ _ h
  | .ok (.defer d) w', h => hn _ _ h
  | .ok (.enter f args) w', h => by
    refine ⟨by simp [Fence.wide], CallsIn.inRound l (callsIn_wide.2 (Calls.mono h ?_))⟩
    intro e w hR
    cases e with
    | returned v => exact hn _ _ hR
    | panicked c => exact hR
    | outgrown => exact hR
  | .ok (.row row args) w', h => by
    refine ⟨by simp [Fence.wide], fun c cs _ => ?_⟩
    obtain ⟨v, w'', hR, hs⟩ := h c cs
    exact ⟨v, w'', hn _ _ hR, stepsIn_wide.2 hs⟩
  | .ok (.round _ _ _ _ _) w', h => h.elim
  | .halt (.panic v) w', h => h
  | .halt (.exit _) w', h => h.elim
  | .halt (.fatal _) w', h => h.elim
  | .halt (.throw _) w', h => h.elim
  | .halt .goexit w', h => h.elim
  | .halt .blocked w', h => h.elim
  | .halt .waiting w', h => h.elim
  | .halt (.unsupported _) w', h => h.elim
  | .halt (.stuck _) w', h => h.elim

theorem wpListIn_of_wpList {l : Nat} {ops : Array Oper} (hQ : ∀ a w, ¬ Q .outgrown a w) : ∀ (xs : List Oper) (a : Act) (w : World), (∀ o ∈ xs, ∀ c, o.op ≠ .defer c) → wpList P ops Q xs a w → wpListIn (Fence.wide.inRound l) n P ops Q xs a w
  | [], a, w, _, h => h
  | o :: rest, a, w, hd, h => by
    unfold wpList at h
    unfold wpListIn
    split at h
    · rename_i hw
      rw [if_pos hw]
      rcases h with h | ⟨-, a0, w0, h⟩
      · refine ⟨fun _ _ => trivial, ?_⟩
        rw [Oper.semAt_eq _ _ _ (hd o (by simp))]
        exact upon_round (fun a w h => wpListIn_of_wpList hQ rest a w (fun x hx => hd x (by simp [hx])) h) _ h
      · exact absurd h (hQ _ _)
    · rename_i hw
      rw [if_neg hw]
      exact ⟨fun _ _ => trivial, wpListIn_of_wpList hQ rest _ w (fun x hx => hd x (by simp [hx])) h⟩

theorem wpOpsIn_list {F : Fence} {ops : Array Oper} : ∀ (l : List Nat) (a : Act) (w : World), wpListIn F n P ops Q (l.filterMap fun i => ops[i]?) a w → wpOpsIn F n P ops Q l a w
  | [], a, w, h => h
  | i :: l, a, w, h => by
    cases ho : ops[i]? with
    | none =>
      simp only [wpOpsIn, ho]
      exact wpOpsIn_list l a w (by simpa [List.filterMap_cons, ho] using h)
    | some o =>
      simp only [List.filterMap_cons, ho] at h
      simp only [wpOpsIn, ho]
      unfold wpListIn at h
      split at h
      · rename_i hw
        rw [if_pos hw]
        exact Oper.wpIn_mono (fun a w => wpOpsIn_list l a w) h
      · rename_i hw
        rw [if_neg hw]
        exact ⟨h.1, wpOpsIn_list l _ w h.2⟩

/-- No operation of the list is a defer statement. -/
def noDefer (l : List Oper) : Bool := l.all fun o => match o.op with | .defer _ => false | _ => true
theorem noDefer_mem {l : List Oper} (h : noDefer l = true) : ∀ o ∈ l, ∀ c, o.op ≠ .defer c := by
  intro o ho c e
  have := List.all_eq_true.1 h o ho
  rw [e] at this
  simp at this

/-- The i-th operation ahead of others. -/
def nthO : List Oper → Nat → List Oper → List Oper
  | [], _, r => r
  | o :: _, 0, r => o :: r
  | _ :: l, i + 1, r => nthO l i r
/-- The operations in an order. -/
def pickO (l : List Oper) : List Nat → List Oper
  | [] => []
  | i :: r => nthO l i (pickO l r)
theorem nthO_eq : ∀ (l : List Oper) (i : Nat) (r : List Oper), nthO l i r = l[i]?.toList ++ r
  | [], _, _ => by simp [nthO]
  | _ :: _, 0, _ => by simp [nthO]
  | _ :: l, i + 1, r => by simp [nthO, nthO_eq l i r]
theorem pickO_eq (l : List Oper) : ∀ x : List Nat, pickO l x = x.filterMap fun i => l[i]?
  | [] => rfl
  | i :: r => by
    rw [pickO, nthO_eq, pickO_eq l r, List.filterMap_cons]
    cases l[i]? <;> rfl

/-- A region within a round, in each of its orders. -/
theorem wpIn_region_lines {lr id : Nat} {l : List Oper} {a : Act} {w : World} (hm : P.follows .mixedOrders = true) (hQ : ∀ a w, ¬ Q .outgrown a w) (hd : noDefer l = true) (ls : List (List Nat))
    (hl : linesOf .any l.toArray l.toArray.size (Array.replicate l.toArray.size false) = ls)
    (h : ∀ x ∈ ls, wpList P l.toArray Q (pickO l x) a w.drew) : (Code.region id l.toArray true).wpIn (Fence.wide.inRound lr) n P Q a w :=
  wpIn_region_draw fun t => by
    simp only [Region.schedule, hm, Bool.true_or, if_true]
    have := lines_mem .any l.toArray l.toArray.size t (Array.replicate l.toArray.size false)
    rw [hl] at this
    have hh := h _ this
    rw [pickO_eq] at hh
    refine wpOpsIn_list _ _ _ (wpListIn_of_wpList hQ _ _ _ ?_ (by simpa [Region.linearise] using hh))
    intro o ho
    obtain ⟨i, -, hi⟩ := List.mem_filterMap.1 ho
    exact noDefer_mem hd o (List.mem_of_getElem? (by simpa using hi))
/-- A region within a round that goes in its own order. -/
theorem wpIn_region_plain {lr id : Nat} {l : List Oper} {a : Act} {w : World} (hQ : ∀ a w, ¬ Q .outgrown a w) (hd : noDefer l = true) (h : wpList P l.toArray Q l a w) : (Code.region id l.toArray false).wpIn (Fence.wide.inRound lr) n P Q a w := by
  refine wpIn_region ?_
  have := wpListIn_of_wpList (l := lr) (n := n) hQ l a w (noDefer_mem hd) h
  rw [List.range_eq_range', show l.toArray.size = l.length from by simp, wpOpsIn_eq_wpListIn l 0 (by simp)]
  exact this
end
end Go.Proofs.YtkkgfgllfbahlaaGreatFmt

namespace Go.Proofs.YtkkgfgllfbahlaaGreatFmt
open Go Go.RowKit
set_option linter.unusedSimpArgs false

/-- The inner closure of Preorder over a loop that takes m texts. -/
@[reducible] def yF (m : Nat) : Clo := ⟨List ByteArray × Bool, fun k s => match k with
  | some k => yldF m k s
  | none => (s.2, s)⟩
theorem yF_off (m : Nat) : (∀ x : XT, ∀ s : List ByteArray, walkX (visF (yF m)) x () (s, false) = (s, false)) ∧ ∀ xs : List XT, ∀ s : List ByteArray, walkXs (visF (yF m)) xs () (s, false) = (s, false) := by
  have h1 : ∀ x : XT, ∀ s : List ByteArray, walkX (visF (yF m)) x () (s, false) = (s, false) := by
    intro x s
    cases x
    unfold walkX
    simp [visF, yF, yldF]
  refine ⟨h1, fun xs => ?_⟩
  induction xs with
  | nil => intro s; unfold walkXs; rfl
  | cons x r ih => intro s; unfold walkXs; exact (congrArg (walkXs (visF (yF m)) r ()) (h1 x s)).trans (ih s)
theorem yF_some (m : Nat) (k : ByteArray) (ks : List XT) (s : List ByteArray) : walkX (visF (yF m)) (.mk k ks) () (s, true) = if s.length + 1 < m then walkXs (visF (yF m)) ks () (s ++ [k], true) else (s ++ [k], false) := by
  unfold walkX
  by_cases h : s.length + 1 < m
  · simp [visF, yF, yldF, h]
  · simp [visF, yF, yldF, h]
mutual
theorem yF_walk (m : Nat) : ∀ (x : XT) (s : List ByteArray), s.length < m → walkX (visF (yF m)) x () (s, true) = ((s ++ preX x).take m, decide ((s ++ preX x).length < m))
  | .mk k ks, s, h => by
    rw [yF_some, preX]
    by_cases hl : s.length + 1 < m
    · rw [if_pos hl, yF_walks m ks (s ++ [k]) (by simpa using hl)]
      simp
    · rw [if_neg hl]
      have hm : m = (s ++ [k]).length := by simp; omega
      have e : s ++ k :: preXs ks = (s ++ [k]) ++ preXs ks := by simp
      rw [e, List.take_append_of_le_length (by omega), List.take_of_length_le (by omega)]
      have : ¬ ((s ++ [k]) ++ preXs ks).length < m := by rw [List.length_append]; omega
      simp only [this, decide_false]
theorem yF_walks (m : Nat) : ∀ (xs : List XT) (s : List ByteArray), s.length < m → walkXs (visF (yF m)) xs () (s, true) = ((s ++ preXs xs).take m, decide ((s ++ preXs xs).length < m))
  | [], s, h => by
    unfold walkXs
    have : (s ++ preXs []) = s := by simp [preXs]
    rw [this, List.take_of_length_le (by omega)]
    simp [h]
  | x :: r, s, h => by
    unfold walkXs
    refine (congrArg (walkXs (visF (yF m)) r ()) (yF_walk m x s h)).trans ?_
    rw [preXs]
    by_cases hl : (s ++ preX x).length < m
    · rw [decide_eq_true hl, List.take_of_length_le (by omega), yF_walks m r _ hl, List.append_assoc]
    · rw [decide_eq_false hl, (yF_off m).2, ← List.append_assoc, List.take_append_of_le_length (l₁ := s ++ preX x) (by omega)]
      have : ¬ (s ++ preX x ++ preXs r).length < m := by rw [List.length_append]; omega
      simp only [this, decide_false]
end

theorem But.putObj {lb : Nat} {w w1 : World} (h : But lb w w1) {r : Nat} (hr : w.heap.size ≤ r) (o : Obj) : But lb w (w1.putObj r o) :=
  ⟨h.os, h.tape, h.output, Nat.le_trans h.size (by simp), fun k hk hne => (World.putObj_heap_other (by omega)).trans (h.block k hk hne)⟩
theorem boxed_keep {w w1 : World} {B : Nat} {t : TypeId} {v : Value} (h : Boxed w B t v) (e : w1.heap[B]? = w.heap[B]?) : Boxed w1 B t v := e.trans h

/-- Where the blocks of the loop over Preorder lie: the block for deferred calls, the record, yield's box, the flag's box, all behind w1. -/
def LayY (ob D l y k : Nat) (w1 : World) : Prop := ob < w1.heap.size ∧ 0 < ob ∧ w1.heap.size ≤ D ∧ D < l ∧ l < y ∧ y < k
/-- What has been kept lies behind ob, in rows behind k; ro is the loop's record; o the flag of Preorder. -/
structure KeptZ (ob D l y k : Nat) (w1 : World) (b : Nat) (s : List ByteArray) (ro : Obj) (o : Bool) (w : World) : Prop where
  len : s.length + b ≤ 4000
  fr : w.frozen? ⟨ob, 0, none⟩ = false
  but : But ob w1 w
  sz : k < w.heap.size
  out : ∃ sv, w.cell? ⟨ob, 0, none⟩ = some sv ∧ w.ownsRow (k + 1) 9 1 sv s.length (strs s)
  df : w.heap[D]? = some (.deferred (some []))
  rc : w.heap[l]? = some ro
  yd : Boxed w y 56 (.func (.yield l) #[] #[])
  ok : Boxed w k 4 (.bool o)
section
variable {ob D l y k : Nat} {w1 : World} {b : Nat} {s : List ByteArray} {ro : Obj} {o : Bool} {w : World}
theorem KeptZ.less (h : KeptZ ob D l y k w1 (b + 1) s ro o w) : KeptZ ob D l y k w1 b s ro o w := { h with len := by have := h.len; omega }
theorem KeptZ.recd (h : KeptZ ob D l y k w1 b s ro o w) (hL : LayY ob D l y k w1) (hro : ro.isCells = false) (ro' : Obj) : KeptZ ob D l y k w1 b s ro' o (w.putObj l ro') := by
  obtain ⟨h1, h2, h3, h4, h5, h6⟩ := hL
  have hob : (w.putObj l ro').heap[ob]? = w.heap[ob]? := World.putObj_heap_other (by omega)
  obtain ⟨sv, hsv, hown⟩ := h.out
  exact ⟨h.len, (World.frozen?_of_block hob).trans h.fr, h.but.putObj (by omega) _, by simpa using h.sz, ⟨sv, (World.cell?_of_block hob).trans hsv, ownsRow_putObj hown ro' h.rc hro⟩,
    (World.putObj_heap_other (by omega)).trans h.df, World.putObj_heap_same (by have := h.sz; omega), boxed_keep h.yd (World.putObj_heap_other (by omega)), boxed_keep h.ok (World.putObj_heap_other (by omega))⟩
theorem KeptZ.flag (h : KeptZ ob D l y k w1 b s ro o w) (hL : LayY ob D l y k w1) (o' : Bool) : KeptZ ob D l y k w1 b s ro o' (w.setCell ⟨k, 0, none⟩ (.bool o')) := by
  obtain ⟨h1, h2, h3, h4, h5, h6⟩ := hL
  have hk : ∀ q, q ≠ k → (w.setCell ⟨k, 0, none⟩ (.bool o')).heap[q]? = w.heap[q]? := fun q hq => Below.heap_setCell w _ _ q hq
  obtain ⟨sv, hsv, hown⟩ := h.out
  refine ⟨h.len, (World.frozen?_of_block (hk ob (by omega))).trans h.fr, h.but.setNew (by show _ ≤ k; omega) _, by simpa [World.setCell] using h.sz, ⟨sv, (World.cell?_of_block (hk ob (by omega))).trans hsv, ?_⟩,
    (hk D (by omega)).trans h.df, (hk l (by omega)).trans h.rc, boxed_keep h.yd (hk y (by omega)), h.ok.set _⟩
  exact hown.kept (row := some k) ⟨rfl, rfl, rfl, by simp [World.setCell], fun q hq hq2 => hk q (fun e => hq2 (by rw [e]))⟩ (Or.inr fun e => by have := (hown.lt _ e).1; omega)
theorem KeptZ.bel {w' : World} (h : KeptZ ob D l y k w1 b s ro o w) (hL : LayY ob D l y k w1) (hb : Bel w w') : KeptZ ob D l y k w1 b s ro o w' := by
  obtain ⟨h1, h2, h3, h4, h5, h6⟩ := hL
  have z := h.sz
  have hq : ∀ q, q ≤ k → w'.heap[q]? = w.heap[q]? := fun q hq => hb.block q (by omega)
  obtain ⟨sv, hsv, hown⟩ := h.out
  exact ⟨h.len, (World.frozen?_of_block (hq ob (by omega))).trans h.fr, h.but.trans (But.of_bel hb), by have := hb.le; omega, ⟨sv, (World.cell?_of_block (hq ob (by omega))).trans hsv, ownsRow_bel hown hb⟩,
    (hq D (by omega)).trans h.df, (hq l (by omega)).trans h.rc, boxed_keep h.yd (hq y (by omega)), boxed_keep h.ok (hq k (by omega))⟩
theorem KeptZ.snoc {x : ByteArray} {w4 : World} {sv : Value} {g cap4 : Nat} (h : KeptZ ob D l y k w1 (b + 1) s ro o w) (hL : LayY ob D l y k w1)
    (hsv : w.cell? ⟨ob, 0, none⟩ = some sv)
    (hown4 : w4.ownsRow (k + 1) 9 1 (.slice (some ⟨g, 0, none⟩) (s.length + 1) cap4) (s.length + 1) (strs s ++ [.string x])) (hgrow4 : w.grownBy w4 sv.ownBlock) :
    KeptZ ob D l y k w1 b (s ++ [x]) ro o (w4.setCell ⟨ob, 0, none⟩ (.slice (some ⟨g, 0, none⟩) (s.length + 1) cap4)) := by
  have hL' := hL
  obtain ⟨h1, h2, h3, h4, h5, h6⟩ := hL
  have z := h.sz
  have zb := h.but.le
  obtain ⟨sv', hsv', hown⟩ := h.out
  obtain rfl : sv' = sv := Option.some.inj (hsv'.symm.trans hsv)
  have hk4 : ∀ q, q ≤ k → w4.heap[q]? = w.heap[q]? := fun q hq => hgrow4.block q (by omega) (fun e => by have := (hown.lt q e.symm).1; omega)
  have hgb : k + 1 ≤ g := (hown4.lt g rfl).1
  have hq : ∀ q, q ≤ k → q ≠ ob → (w4.setCell ⟨ob, 0, none⟩ (.slice (some ⟨g, 0, none⟩) (s.length + 1) cap4)).heap[q]? = w.heap[q]? := fun q hq hne => (Below.heap_setCell w4 _ _ q hne).trans (hk4 q hq)
  have e1 : (s ++ [x]).length = s.length + 1 := by simp
  have e2 : strs (s ++ [x]) = strs s ++ [.string x] := by simp [strs]
  refine ⟨by have := h.len; simp; omega, ?_, ?_, ?_, ⟨_, World.cell?_setCell_same' _ _ _ ?_, ?_⟩, (hq D (by omega) (by omega)).trans h.df, (hq l (by omega) (by omega)).trans h.rc, boxed_keep h.yd (hq y (by omega) (by omega)), boxed_keep h.ok (hq k (by omega) (by omega))⟩
  · rw [World.frozen?_setCell]; exact (World.frozen?_of_block (hk4 ob (by omega))).trans h.fr
  · exact (h.but.grow hgrow4 (fun q hq => by have := (hown.lt q hq).1; omega)).set _ _
  · have := hgrow4.size; simp [World.setCell]; omega
  · rw [World.cell?_of_block (hk4 ob (by omega)), hsv]; rfl
  · rw [e1, e2]
    exact hown4.kept (row := some ob) ⟨rfl, rfl, rfl, by simp [World.setCell], fun q hq hq2 => Below.heap_setCell w4 _ _ q (fun e => hq2 (by rw [e]))⟩ (Or.inr fun e => by
      have e : g = ob := by simpa [Value.ownBlock] using e
      omega)
end

/-- What is asked of a round: the node's kind is kept behind the others; whether more may come. -/
def RoundsY (ob D l y k : Nat) (w1 : World) (lo m : Nat) (rec : Bool → Obj) : Prop :=
  ∀ b s W a v, KeptZ ob D l y k w1 (b + 1) s (rec true) true W → At (In lo w1.heap.size) w1 a v → a.good = true →
    YieldAt Fence.wide 0 Tryz.prog l #[v] W fun e W' => e = .returned (.bool (decide (s.length + 1 < m))) ∧ KeptZ ob D l y k w1 b (s ++ [a.kind]) (rec (decide (s.length + 1 < m))) true W'

set_option maxRecDepth 100000 in
set_option maxHeartbeats 4000000 in
theorem pre_vis {ob D l y k lo m : Nat} {w1 : World} {rec : Bool → Obj} (hL : LayY ob D l y k w1) (hY : RoundsY ob D l y k w1 lo m rec) (b : Nat) (s : List ByteArray) (o : Bool) (w : World) (a : Ast) (v : Value) (hR : KeptZ ob D l y k w1 (b + 1) s (rec o) o w)
    (ha : At (In lo w1.heap.size) w1 a v) (hg : a.good = true) :
    CallsIn Fence.wide 1 Tryz.prog 56 #[v, .pointer (some ⟨k, 0, none⟩), .pointer (some ⟨y, 0, none⟩)] w fun e w' =>
      e = .returned (.bool ((yldF m a.kind (s, o)).1)) ∧ KeptZ ob D l y k w1 b (yldF m a.kind (s, o)).2.1 (rec (yldF m a.kind (s, o)).2.2) (yldF m a.kind (s, o)).2.2 w' := by
  have hY0 := hY b s w a v
  obtain ⟨p, rfl, hp⟩ := ha.ptr
  have c1 := hR.ok.cell
  have f1 := hR.ok.frozen
  have c2 := hR.yd.cell
  cases o
  · have HR := hide hR
    clear hR hY hY0 ha
    simp only [yldF, Bool.false_eq_true, if_false]
    refine callsIn_of_wp Tryz.func56 rfl trivial ?_
    simp only [Tryz.ntmps56, List.size_toArray, List.length_cons, List.length_nil, Nat.reduceAdd, Nat.reduceSub, Array.replicate_succ, Array.replicate_zero, List.push_toArray, List.append_toArray, List.nil_append, List.cons_append]
    gi_wp2_with fail
    refine ⟨fun _ h => (by cases h), ?_⟩
    gi_wp2_with fail
    go_ret
    exact ⟨rfl, HR.out.less.flag hL false⟩
  · obtain ⟨fn, tmps, assign, body, hy, hr⟩ := hY0 hR ha hg
    have HR := hide hr
    clear hR hY hY0 ha hr
    simp only [yldF, if_true]
    refine callsIn_of_wp Tryz.func56 rfl trivial ?_
    simp only [Tryz.ntmps56, List.size_toArray, List.length_cons, List.length_nil, Nat.reduceAdd, Nat.reduceSub, Array.replicate_succ, Array.replicate_zero, List.push_toArray, List.append_toArray, List.nil_append, List.cons_append]
    gi_wp2_with fail
    refine HR.out.mono ?_
    rintro e w2 ⟨rfl, hK⟩
    have c3 := hK.ok.cell
    have f3 := hK.ok.frozen
    have HK := hide hK
    clear hK
    gi_wp2_with fail
    go_ret
    exact ⟨rfl, HK.out.flag hL _⟩
set_option maxRecDepth 100000 in
set_option maxHeartbeats 4000000 in
theorem pre_nil {ob D l y k : Nat} {w1 : World} {rec : Bool → Obj} (b : Nat) (s : List ByteArray) (o : Bool) (w : World) (hR : KeptZ ob D l y k w1 (b + 1) s (rec o) o w) :
    CallsIn Fence.wide 1 Tryz.prog 56 #[.nilIface, .pointer (some ⟨k, 0, none⟩), .pointer (some ⟨y, 0, none⟩)] w fun e w' => e = .returned (.bool o) ∧ KeptZ ob D l y k w1 b s (rec o) o w' := by
  have c1 := hR.ok.cell
  have HR := hide hR
  clear hR
  refine callsIn_of_wp Tryz.func56 rfl trivial ?_
  simp only [Tryz.ntmps56, List.size_toArray, List.length_cons, List.length_nil, Nat.reduceAdd, Nat.reduceSub, Array.replicate_succ, Array.replicate_zero, List.push_toArray, List.append_toArray, List.nil_append, List.cons_append]
  gi_wp2_with fail
  go_ret
  exact ⟨rfl, HR.out.less⟩

/-- Preorder's inner closure is as asked. -/
theorem goodY {ob D l y k lo m : Nat} {w1 : World} {rec : Bool → Obj} (hlo : ob < lo) (hL : LayY ob D l y k w1) (hY : RoundsY ob D l y k w1 lo m rec) :
    GoodF (yF m) (In lo w1.heap.size) w1 56 #[.pointer (some ⟨k, 0, none⟩), .pointer (some ⟨y, 0, none⟩)] (fun b s w => KeptZ ob D l y k w1 b s.1 (rec s.2) s.2 w) := by
  refine ⟨fun _ _ => by kernel_rfl, fun b s w h => fun q hq => h.but.block q hq.2 (fun e => by injection e with e; have := hq.1; omega), fun b s w h => h.less, ?_, ?_⟩
  · rintro b ⟨s, o⟩ w a node hR ha hg
    exact callsIn_wide.1 (pre_vis hL hY b s o w a node hR ha hg)
  · rintro b ⟨s, o⟩ w hR
    exact callsIn_wide.1 (pre_nil b s o w hR)

set_option maxRecDepth 100000 in
set_option maxHeartbeats 4000000 in
/-- The iterator of Preorder, over the loop's rounds. -/
theorem preorder_iter {ob D l lo m rb : Nat} {w1 W0 : World} {rec : Bool → Obj} {a : Ast} {v : Value} (hg : a.good = true) (ha : At (In lo w1.heap.size) w1 a v) (hlo : ob < lo) (hm : 0 < m) (hsz : 2 * a.xt.size ≤ 4000) (hob0 : 0 < ob) (hob : ob < w1.heap.size)
    (h1 : w1.heap.size ≤ rb) (h2 : w1.heap.size ≤ D) (h3 : D < l) (h4 : l < W0.heap.size) (hB : Bel w1 W0) (hrb : W0.cell? ⟨rb, 0, none⟩ = some v) (hf : w1.frozen? ⟨ob, 0, none⟩ = false) (hc : w1.cell? ⟨ob, 0, none⟩ = some (.slice none 0 0))
    (hD : W0.heap[D]? = some (.deferred (some []))) (hl : W0.heap[l]? = some (rec true)) (hY : RoundsY ob D l W0.heap.size (W0.heap.size + 1) w1 lo m rec) :
    Calls Tryz.prog 55 #[.func (.yield l) #[] #[], .pointer (some ⟨rb, 0, none⟩)] W0 fun e W => ∃ r, e = .returned r ∧
      KeptZ ob D l W0.heap.size (W0.heap.size + 1) w1 0 ((preX a.xt).take m) (rec (decide ((preX a.xt).length < m))) (decide ((preX a.xt).length < m)) W := by
  have hz := hB.le
  have hL : LayY ob D l W0.heap.size (W0.heap.size + 1) w1 := ⟨hob, hob0, h2, h3, h4, by omega⟩
  have hrl : rb < W0.heap.size := World.block_lt_of_cell? W0 _ hrb
  have G := goodY hlo hL hY
  have hW := inspect_any G hg ha
  have hxv : walkX (visF (yF m)) a.xt () (([] : List ByteArray), true) = ((preX a.xt).take m, decide ((preX a.xt).length < m)) := by simpa using yF_walk m a.xt [] (by simpa using hm)
  have hb2 : Bel W0 ((W0.alloc (.cells #[.func (.yield l) #[] #[]] 56)).alloc (.cells #[.bool true] 4)) := (by repeat (first | exact Bel.refl _ | assumption | refine Bel.alloc ?_ _ | refine Bel.drew ?_ | refine Bel.set ?_ (by first | exact Nat.le_refl _ | (simp; done) | (simp; omega)) _))
  have hq : ∀ q, q < W0.heap.size → ((W0.alloc (.cells #[.func (.yield l) #[] #[]] 56)).alloc (.cells #[.bool true] 4)).heap[q]? = W0.heap[q]? := fun q hq => hb2.block q hq
  have hK0 : KeptZ ob D l W0.heap.size (W0.heap.size + 1) w1 (0 + 2 * a.xt.size) [] (rec true) true ((W0.alloc (.cells #[.func (.yield l) #[] #[]] 56)).alloc (.cells #[.bool true] 4)) := by
    refine ⟨by simp; omega, ?_, ?_, by simp, ⟨_, ?_, by simpa using World.ownsRow_nil _ _ _ _⟩, (hq D (by omega)).trans hD, (hq l (by omega)).trans hl, (Boxed.new W0 _ _).alloc _, ?_⟩
    · exact ((World.frozen?_of_block (hq ob (by omega))).trans (World.frozen?_of_block (hB.block ob hob))).trans hf
    · exact (But.of_bel hB).trans (But.of_bel hb2)
    · exact ((World.cell?_of_block (hq ob (by omega))).trans (World.cell?_of_block (hB.block ob hob))).trans hc
    · have := Boxed.new (W0.alloc (.cells #[.func (.yield l) #[] #[]] 56)) 4 (.bool true)
      rw [World.size_alloc] at this
      exact this
  have HW := hide (hW 0 (([] : List ByteArray), true) _ hK0)
  clear hW hK0 G hY
  go_enter Tryz.func55, Tryz.ntmps55
  go_wp2_with fail
  with_reducible refine Calls.mono HW.out ?_
  rintro e w2 ⟨r2, rfl, hR2⟩
  rw [hxv] at hR2
  go_wp2_with fail
  go_returns
  exact ⟨_, rfl, hR2⟩
end Go.Proofs.YtkkgfgllfbahlaaGreatFmt

namespace Go.Proofs.YtkkgfgllfbahlaaGreatFmt
open Go Go.RowKit
set_option linter.unusedSimpArgs false

theorem preorder_fn (t p : Nat) (w : World) : Calls Tryz.prog 31 #[.iface t (.pointer (some ⟨p, 0, none⟩))] w fun e w' =>
    e = .returned (.func (.func 55) #[] #[.pointer (some ⟨w.heap.size, 0, none⟩)]) ∧ w.alloc (.cells #[.iface t (.pointer (some ⟨p, 0, none⟩))] 54) = w' := by
  go_enter Tryz.func31, Tryz.ntmps31
  go_wp2_with fail
  go_ret
  exact ⟨rfl, rfl⟩

/-- The record of a loop that takes up to so many. -/
def recL (fn : FuncId) (T : Array Value) (A B : Code) (D : Nat) (ok : Bool) : Obj := .loop { state := if ok = true then .ready else .done, pending := if ok = true then none else some (.exit 0), fn := fn, tmps := T, params := #[10], assign := A, body := B, defers := D }
def recB (fn : FuncId) (T : Array Value) (A B : Code) (D : Nat) : Obj := .loop { state := .busy, pending := none, fn := fn, tmps := T, params := #[10], assign := A, body := B, defers := D }
theorem recL_true (fn : FuncId) (T : Array Value) (A B : Code) (D : Nat) : recL fn T A B D true = .loop { state := .ready, pending := none, fn := fn, tmps := T, params := #[10], assign := A, body := B, defers := D } := rfl
theorem recL_false (fn : FuncId) (T : Array Value) (A B : Code) (D : Nat) : recL fn T A B D false = .loop { state := .done, pending := some (.exit 0), fn := fn, tmps := T, params := #[10], assign := A, body := B, defers := D } := rfl
theorem yieldAt_abs {F : Fence} {m : Nat} {P : Program} {l : Nat} {args : Array Value} {W : World} {post : Ending → World → Prop} (h : ∀ R : Ending → World → Prop, (∀ e w, post e w → R e w) → YieldAt F m P l args W R) : YieldAt F m P l args W post := h post fun _ _ h => h
theorem KeptZ.into {ob D l y k : Nat} {w1 : World} {b : Nat} {s : List ByteArray} {ro : Obj} {o : Bool} {W : World} {F : Fence} {n : Nat} {P : Program} {c : Code} {Q : Exit → Act → World → Prop} {a : Act} (h : KeptZ ob D l y k w1 b s ro o W)
    (hh : ∀ Wb, KeptZ ob D l y k w1 b s ro o Wb → c.wpIn F n P Q a Wb) : c.wpIn F n P Q a W := hh W h
theorem KeptZ.busy {ob D l y k : Nat} {w1 : World} {b : Nat} {s : List ByteArray} {o : Bool} {w : World} {fn : FuncId} {T : Array Value} {A B : Code} (h : KeptZ ob D l y k w1 b s (recL fn T A B D true) o w) (hL : LayY ob D l y k w1) :
    KeptZ ob D l y k w1 b s (recB fn T A B D) o (w.putObj l (recB fn T A B D)) := h.recd hL rfl _

set_option maxRecDepth 100000 in
theorem yields_loop {ob lo m p : Nat} {w1 w : World} {A B : Code} {Q : Exit → Act → World → Prop} {a : Ast} (hg : a.good = true) (ha : At (In lo w1.heap.size) w1 a (.iface a.ptype (.pointer (some ⟨p, 0, none⟩)))) (hlo : ob < lo) (hm : 0 < m) (hsz : 2 * a.xt.size ≤ 4000) (hob0 : 0 < ob) (hob : ob < w1.heap.size)
    (hf : w1.frozen? ⟨ob, 0, none⟩ = false) (hc : w1.cell? ⟨ob, 0, none⟩ = some (.slice none 0 0)) (hw : w = w1.alloc (.cells #[.iface a.ptype (.pointer (some ⟨p, 0, none⟩))] 54)) (act : Act)
    (h9 : act.eval (.tmp 9) = .func (.func 55) #[] #[.pointer (some ⟨w1.heap.size, 0, none⟩)])
    (hR : ∀ fn D l y k, LayY ob D l y k w1 → RoundsY ob D l y k w1 lo m (recL fn act.tmps A B D))
    (hQ : ∀ D l y k r o e W, LayY ob D l y k w1 → KeptZ ob D l y k w1 0 ((preX a.xt).take m) r o W → (e = .normal ∨ e = .exit 0) → Q e { act with defers := [{ target := .collected D, args := #[] }] ++ act.defers } W) :
    (Code.rangeFunc (.tmp 9) #[10] A B).wpIn Fence.wide 1 Tryz.prog Q act w := by
  refine wpIn_rangeFunc fun fn _ => ?_
  obtain ⟨W1, hW1⟩ : ∃ W1, ((w.alloc (.deferred (some []))).alloc (recL fn act.tmps A B w.heap.size true)) = W1 := ⟨_, rfl⟩
  have hs0 : w.heap.size = w1.heap.size + 1 := by rw [hw]; simp
  have hs1 : W1.heap.size = w.heap.size + 2 := by rw [← hW1]; simp
  have hB : Bel w1 W1 := by rw [← hW1, hw]; exact (by repeat (first | exact Bel.refl _ | assumption | refine Bel.alloc ?_ _ | refine Bel.drew ?_ | refine Bel.set ?_ (by first | exact Nat.le_refl _ | (simp; done) | (simp; omega)) _))
  have hq : ∀ q, q < w.heap.size → W1.heap[q]? = w.heap[q]? := fun q hq => by
    rw [← hW1]
    exact (Below.heap_alloc _ _ _ (by simp; omega)).trans (Below.heap_alloc _ _ _ hq)
  have hD : W1.heap[w.heap.size]? = some (.deferred (some [])) := by
    rw [← hW1]
    exact (Below.heap_alloc _ _ _ (by simp)).trans (World.alloc_heap_new _ _)
  have hl : W1.heap[w.heap.size + 1]? = some (recL fn act.tmps A B w.heap.size true) := by
    rw [← hW1]
    have := World.alloc_heap_new (w.alloc (.deferred (some []))) (recL fn act.tmps A B w.heap.size true)
    rw [World.size_alloc] at this
    exact this
  have hrb : W1.cell? ⟨w1.heap.size, 0, none⟩ = some (.iface a.ptype (.pointer (some ⟨p, 0, none⟩))) := by
    refine (World.cell?_of_block (hq w1.heap.size (by omega))).trans ?_
    rw [hw]
    simp [go_sem]
  have hL : LayY ob w.heap.size (w.heap.size + 1) W1.heap.size (W1.heap.size + 1) w1 := ⟨hob, hob0, by omega, by omega, by omega, by omega⟩
  refine ⟨w.heap.size + 1, [{ target := .collected w.heap.size, args := #[] }], W1, { target := .fn (.func 55) #[.pointer (some ⟨w1.heap.size, 0, none⟩)], args := #[.func (.yield (w.heap.size + 1)) #[] #[]] }, W1, 55,
    #[.func (.yield (w.heap.size + 1)) #[] #[], .pointer (some ⟨w1.heap.size, 0, none⟩)], W1, ?_, ?_, fun _ _ => trivial, ?_, by simp [Fence.wide], ?_⟩
  · rw [← hW1]
    exact run_enterLoop_outer _ _ _ _ _
  · simp only [resolve, h9]
    simp [go_sem]
  · kernel_rfl
  · refine callsIn_wide.2 ((preorder_iter (rec := recL fn act.tmps A B w.heap.size) hg ha hlo hm hsz hob0 hob (Nat.le_refl _) (by omega) (by omega) (by omega) hB hrb hf hc hD hl (hR fn _ _ _ _ hL)).mono ?_)
    rintro e W ⟨r, rfl, hK⟩
    have hrc := hK.rc
    cases hdec : decide ((preX a.xt).length < m)
    · rw [hdec, recL_false] at hrc
      refine ⟨some (.exit 0), _, run_endLoop hrc (by simp), wpIn_exit ?_⟩
      exact hQ _ _ _ _ _ _ _ _ hL (hK.recd hL rfl _) (.inr rfl)
    · rw [hdec, recL_true] at hrc
      refine ⟨none, _, run_endLoop hrc (by simp), ?_⟩
      exact hQ _ _ _ _ _ _ _ _ hL (hK.recd hL rfl _) (.inl rfl)

set_option maxRecDepth 100000 in
set_option maxHeartbeats 4000000 in
theorem yields_impl (n : Nd) (hs : shS n = true) (hm : n.nodes ≤ 400) (most : Int) (kv : Value) (w : World) (hn : NdK w.heap.size w n kv) (htok : TokTab w) (h0 : 0 < w.heap.size) :
    Calls Tryz.prog 17 #[nodeV n kv, .int .i64 most] w (StrPost ((preX (xtN n)).take (max 1 most.toNat)) w) := by
  have hg := bS_good n.nodes n [] (Nat.le_refl _) hm hs
  have hx := bS_xt n.nodes n [] (Nat.le_refl _) hs
  have hsz := (xt_size n).1
  obtain ⟨a, cap, hv, -, -⟩ := hn.slice
  subst hv
  obtain ⟨i0, hi, hz0, hz1, hz2⟩ := info_parts info_str
  have hb : Bel w (((w.alloc (.cells #[.string n.kind, .string n.text, .slice a n.kids.length cap] 24)).alloc (.cells #[.int .i64 most] 3)).alloc (.cells #[.slice none 0 0] 34)) := (by repeat (first | exact Bel.refl _ | assumption | refine Bel.alloc ?_ _ | refine Bel.drew ?_ | refine Bel.set ?_ (by first | exact Nat.le_refl _ | (simp; done) | (simp; omega)) _))
  have HB := hide (build_b n hs hm (.slice a n.kids.length cap) (((w.alloc (.cells #[.string n.kind, .string n.text, .slice a n.kids.length cap] 24)).alloc (.cells #[.int .i64 most] 3)).alloc (.cells #[.slice none 0 0] 34))
    (hn.later hb) (htok.bel h0 hb) (by simp) [] (.slice none 0 0) (.inl ⟨rfl, rfl⟩))
  clear hn
  unfold nodeV at HB ⊢
  refine (callsIn_wide (n := 1)).1 (callsIn_of_wp_marks Tryz.func17 rfl trivial (wpIn_wide.2 ?_) rfl)
  simp only [Tryz.ntmps17, List.size_toArray, List.length_cons, List.length_nil, Nat.reduceAdd, Nat.reduceSub, Array.replicate_succ, Array.replicate_zero, List.push_toArray, List.append_toArray, List.nil_append, List.cons_append]
  go_wp2_with fail
  with_reducible refine Calls.mono HB.out ?_
  rintro e w1 ⟨node, rfl, ha, hT1⟩
  have hw1 : Bel w w1 := Bel.trans hb hT1
  have z1 := hT1.le
  simp only [World.size_alloc] at z1 ha
  have c1 := hT1.at (b := w.heap.size + 1 + 1) (by simp)
  have f1 := hT1.atf (b := w.heap.size + 1 + 1) (by simp)
  have d1 := hT1.at (b := w.heap.size + 1) (by simp)
  have hc : w1.cell? ⟨w.heap.size + 1 + 1, 0, none⟩ = some (.slice none 0 0) := by rw [c1]; simp [go_sem]
  have hf : w1.frozen? ⟨w.heap.size + 1 + 1, 0, none⟩ = false := by rw [f1]; simp [go_sem]
  have hst : w1.cell? ⟨w.heap.size + 1, 0, none⟩ = some (.int .i64 most) := by rw [d1]; simp [go_sem]
  have htk1 := htok.bel h0 hw1
  obtain ⟨p, rfl, hp⟩ := ha.ptr
  clear hT1 c1 f1 d1
  go_wp2_with fail
  with_reducible refine Calls.mono (preorder_fn _ _ _) ?_
  rintro e w2 ⟨rfl, hw2⟩
  go_wp2_with fail
  refine (wpIn_wide (n := 1)).1 (yields_loop (ob := w.heap.size + 1 + 1) (lo := w.heap.size + 1 + 1 + 1) (m := max 1 most.toNat) (w1 := w1) hg.2 ha (by omega) (by omega) (by rw [hx]; omega) (by omega) (by omega) hf hc hw2.symm _ rfl ?round ?done)
  case round =>
    clear HB hw2 hb
    intro fn D l y k hL b s W x v hR hax hgx
    refine yieldAt_abs fun R hRR => ?_
    have HRR := hide hRR
    clear hRR
    have hrc := hR.rc
    rw [recL_true] at hrc
    have hKb := hR.busy hL
    refine ⟨_, _, _, _, run_yield (P := Tryz.prog) (args := #[v]) hrc rfl, roundIn_of_wpIn trivial ?_⟩
    refine wpIn_region_plain (fun _ _ h => h) rfl ?_
    go_wp2_with fail
    refine ⟨_, run_beginRound hrc rfl, ?_⟩
    refine hKb.into ?_
    clear hR hrc hKb
    intro Wb hKb
    have hbf := hKb.but
    have zb := hbf.le
    have zk := hKb.sz
    have hLL := hL
    obtain ⟨l1, l2, l3, l4, l5, l6⟩ := hL
    obtain ⟨sv, hsv, hown⟩ := hKb.out
    obtain ⟨sa, sc, rfl⟩ := own_slice hown
    have hfr := hKb.fr
    have hobw : w.heap.size + 1 + 1 < Wb.heap.size := by omega
    have hst2 : Wb.cell? ⟨w.heap.size + 1, 0, none⟩ = some (.int .i64 most) := (World.cell?_of_block (hbf.block (w.heap.size + 1) (by omega) (fun e => by injection e with e; omega))).trans hst
    have haW : At (In (w.heap.size + 1 + 1 + 1) w1.heap.size) Wb x v := hax.stay (fun _ h => h) (fun q hq => hbf.block q hq.2 (fun e => by injection e with e; have := hq.1; omega))
    have hS : ∀ q, In (w.heap.size + 1 + 1 + 1) w1.heap.size q → q < Wb.heap.size := fun q hq => by have := hq.2; omega
    have htkb : TokTab Wb := fun t ht => (World.cell?_of_block (hbf.block 0 (by omega) (fun e => by injection e with e; omega))).trans (htk1 t ht)
    have h0b : 0 < Wb.heap.size := by omega
    have HK := hide (fun W' (hb : Bel Wb W') => kindOf_any x hgx (haW.stay (fun _ h => h) (hb.mid hS)) (fun q hq => Nat.lt_of_lt_of_le (hS q hq) hb.le) (htkb.bel h0b hb) (Nat.lt_of_lt_of_le h0b hb.le))
    obtain ⟨p2, rfl, -⟩ := hax.ptr
    have HKb := hide hKb
    have HO := hide hown
    have hlen := hKb.len
    clear haW hax htkb hKb hown
    refine wpIn_block (wpIn_seq_k fun K hK5 => ?_)
    have HK5 := hide hK5
    clear hK5
    refine wpIn_region_lines (by kernel_rfl) (fun _ _ h => h) rfl [[0, 1, 2, 3, 4, 5], [1, 0, 2, 3, 4, 5], [1, 2, 0, 3, 4, 5], [1, 2, 3, 0, 4, 5]] (by kernel_rfl) ?_
    simp only [List.forall_mem_cons, List.not_mem_nil, pickO, nthO, false_implies, implies_true, and_true]
    refine ⟨?_, ?_, ?_, ?_⟩
    all_goals (
      go_wp2_with fail
      with_reducible refine Calls.mono (HK.out _ ?_) ?_
      · exact (by repeat (first | exact Bel.refl _ | assumption | refine Bel.alloc ?_ _ | refine Bel.drew ?_ | refine Bel.set ?_ (by first | exact Nat.le_refl _ | (simp; done) | (simp; omega)) _))
      rintro e w3 ⟨rfl, hT3⟩
      have hw3 : Bel Wb w3 := Bel.trans (by repeat (first | exact Bel.refl _ | assumption | refine Bel.alloc ?_ _ | refine Bel.drew ?_ | refine Bel.set ?_ (by first | exact Nat.le_refl _ | (simp; done) | (simp; omega)) _)) hT3
      have z3 := hw3.le
      have c3_1 := hw3.at (b := w.heap.size + 1 + 1) hobw
      have f3_1 := hw3.atf (b := w.heap.size + 1 + 1) hobw
      have l3_1 : w.heap.size + 1 + 1 < w3.heap.size := by omega
      have n3_1 : ¬ w.heap.size + 1 + 1 = w3.heap.size := by omega
      have m3_1 : ¬ w3.heap.size = w.heap.size + 1 + 1 := by omega
      have hB : Bel Wb (w3.alloc (.cells #[.string x.kind] 9)) := (by repeat (first | exact Bel.refl _ | assumption | refine Bel.alloc ?_ _ | refine Bel.drew ?_ | refine Bel.set ?_ (by first | exact Nat.le_refl _ | (simp; done) | (simp; omega)) _))
      have hno2 : (Value.slice sa s.length sc).ownBlock ≠ some (w.heap.size + 1 + 1) := fun e => by have := (HO.out.lt _ e).1; omega
      have HB := hide hB
      have HN := hide hno2
      clear hB hno2
      go_wp2_with (first
        | (at_builtin
           refine wpList_append_lies _ rfl _ _ 34 rfl (k + 1) 9 i0 _ 1 16 under_strs hi hz0 hz1 hz2 rfl (by decide) (.slice sa s.length sc) s.length (strs s) rfl (ownsRow_bel HO.out HB.out) ⟨w3.heap.size, 0, none⟩ 1 1 [.string x.kind] rfl rfl (World.news_of_block (heap_alloc_new w3 (.cells #[.string x.kind] 9))) (fun u hu => by simp at hu; rcases hu with rfl; rfl) (by decide) (by unfold maxLen; omega) (by omega) (by simp; omega) _ rfl ?_
           intro g4 cap4 w4 hown4 hgrow4 hat4 hlt4
           have c4_1 : ∀ j, w4.cell? ⟨w.heap.size + 1 + 1, j, none⟩ = (w3.alloc (.cells #[.string x.kind] 9)).cell? ⟨w.heap.size + 1 + 1, j, none⟩ := fun j => World.cell?_of_block (hgrow4.block _ (by simp; omega) (fun e => HN.out e.symm))
           have f4_1 : ∀ j, w4.frozen? ⟨w.heap.size + 1 + 1, j, none⟩ = (w3.alloc (.cells #[.string x.kind] 9)).frozen? ⟨w.heap.size + 1 + 1, j, none⟩ := fun j => World.frozen?_of_block (hgrow4.block _ (by simp; omega) (fun e => HN.out e.symm))
           have HG := hide (show _ ∧ _ from ⟨hown4, hgrow4⟩)
           clear hown4 hgrow4 hat4))
      have hsv3 : (w3.alloc (.cells #[.string x.kind] 9)).cell? ⟨w.heap.size + 1 + 1, 0, none⟩ = some (.slice sa s.length sc) := by rw [World.cell?_alloc_past _ _ _ l3_1, c3_1, hsv]
      have hK4 := (HKb.out.bel hLL HB.out).snoc hLL hsv3 HG.out.1 HG.out.2
      have hc4 : (w4.setCell ⟨w.heap.size + 1 + 1, 0, none⟩ (.slice (some ⟨g4, 0, none⟩) (s.length + 1) cap4)).cell? ⟨w.heap.size + 1 + 1, 0, none⟩ = some (.slice (some ⟨g4, 0, none⟩) (s.length + 1) cap4) := by
        obtain ⟨_, hq, -⟩ := hK4.out
        refine World.cell?_setCell_same' _ _ _ ?_
        rw [c4_1, hsv3]
        rfl
      have hst4 : (w4.setCell ⟨w.heap.size + 1 + 1, 0, none⟩ (.slice (some ⟨g4, 0, none⟩) (s.length + 1) cap4)).cell? ⟨w.heap.size + 1, 0, none⟩ = some (.int .i64 most) := (World.cell?_of_block (hK4.but.block (w.heap.size + 1) (by omega) (fun e => by injection e with e; omega))).trans hst
      refine HK5.out _ _ ?_
      generalize (w4.setCell ⟨w.heap.size + 1 + 1, 0, none⟩ (.slice (some ⟨g4, 0, none⟩) (s.length + 1) cap4)) = W5 at hK4 hc4 hst4 ⊢
      have HK4 := hide hK4
      clear HG HB c4_1 f4_1 c3_1 f3_1 hsv3 hK4
      refine wpIn_seq (wpIn_region_plain (fun _ _ h => h) rfl ?_)
      go_wp2_with fail
      by_cases hm2 : most ≤ (s.length : Int) + 1
      · refine wpIn_cond_true (congrArg Value.bool (decide_eq_true hm2)) (wpIn_exit ?_)
        have hdec : decide (s.length + 1 < max 1 most.toNat) = false := decide_eq_false (by omega)
        refine ⟨_, _, run_endRound (some (.exit 0)) HK4.out.rc, HRR.out _ _ ?_⟩
        rw [hdec, recL_false]
        exact ⟨rfl, HK4.out.recd hLL rfl _⟩
      · refine wpIn_cond_false (congrArg Value.bool (decide_eq_false hm2)) (wpIn_skip ?_)
        have hdec : decide (s.length + 1 < max 1 most.toNat) = true := decide_eq_true (by omega)
        refine ⟨_, _, run_endRound none HK4.out.rc, HRR.out _ _ ?_⟩
        rw [hdec, recL_true]
        exact ⟨rfl, HK4.out.recd hLL rfl _⟩)
  case done =>
    intro D l y k r o e W hL hK he
    obtain ⟨sv, hsv, hown⟩ := hK.out
    obtain ⟨sa, sc, rfl⟩ := own_slice hown
    have HK := hide hK
    have HO := hide hown
    clear hK hown HB
    obtain ⟨l1, l2, l3, l4, l5, l6⟩ := hL
    rcases he with rfl | rfl
    all_goals (
      simp only [Exit.inBlock, Exit.then, ↓reduceIte, List.cons_append, List.nil_append]
      go_wp2_with fail
      refine ⟨by simp, .inl ⟨_, _, rfl, run_takeDeferred HK.out.df, ?_⟩⟩
      rw [← hx]
      exact ⟨_, results_tmp rfl _ _ _, _, _, by simp, ownsRow_base (ownsRow_putObj HO.out _ HK.out.df rfl) (by omega), (HK.out.but.putObj (by omega) _).bel hw1 (by omega)⟩)
end Go.Proofs.YtkkgfgllfbahlaaGreatFmt
