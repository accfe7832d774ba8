/- A region that draws its order, of which few orders are allowed: one plain walk for each order.
spec.shapedList tells shList; shapedSimple tells shSimple. -/
import Derived.Test.YtkkgfgllfbahlaaGreatFmtSh
set_option linter.unusedVariables false
set_option linter.unusedSimpArgs false
namespace Go.Proofs.YtkkgfgllfbahlaaGreatFmt
open Go Go.RowKit

/-- All orders that the edges of a region allow, from what has come up on. -/
def linesOf (md : Region.Mode) (ops : Array Oper) : Nat → Array Bool → List (List Nat)
  | 0, _ => [[]]
  | f + 1, listed => if Region.ready md ops listed = [] then [[]] else (Region.ready md ops listed).flatMap fun i => (linesOf md ops f (listed.setIfInBounds i true)).map (i :: ·)

theorem lines_mem (md : Region.Mode) (ops : Array Oper) : ∀ (fuel t : Nat) (listed : Array Bool), Region.linearise.go md ops fuel t listed [] ∈ linesOf md ops fuel listed := by
  intro fuel
  induction fuel with
  | zero => intro t listed; simp [Region.linearise.go, linesOf]
  | succ fuel ih =>
    intro t listed
    simp only [Region.linearise.go, linesOf]
    change (match (Region.ready md ops listed)[t % (Region.ready md ops listed).length]? with
      | some i => Region.linearise.go md ops fuel (t / (Region.ready md ops listed).length) (listed.setIfInBounds i true) [i]
      | none => [].reverse) ∈ _
    by_cases h : Region.ready md ops listed = []
    · simp [h]
    · rw [if_neg h]
      have hl : t % (Region.ready md ops listed).length < (Region.ready md ops listed).length := Nat.mod_lt _ (by cases hh : Region.ready md ops listed <;> simp_all)
      rw [List.getElem?_eq_getElem hl]
      simp only
      rw [linearise_go_acc]
      refine List.mem_flatMap.2 ⟨_, List.getElem_mem hl, List.mem_map.2 ⟨_, ih (t / (Region.ready md ops listed).length) _, by simp⟩⟩

theorem wpOps_list {P : Program} {ops : Array Oper} {Q : Exit → Act → World → Prop} : ∀ (l : List Nat) (a : Act) (w : World), wpList P ops Q (l.filterMap fun i => ops[i]?) a w → wpOps P ops Q l a w
  | [], a, w, h => h
  | i :: l, a, w, h => by
    cases ho : ops[i]? with
    | none =>
      simp only [wpOps, ho]
      exact wpOps_list l a w (by simpa [List.filterMap_cons, ho] using h)
    | some o =>
      simp only [List.filterMap_cons, ho] at h
      simp only [wpOps, ho]
      have e : wpOps P ops Q l = wpOps P ops Q l := rfl
      unfold wpList at h
      split at h
      · rename_i hw
        rw [if_pos hw]
        exact h.imp (Oper.wp_mono fun a w => wpOps_list l a w) id
      · rename_i hw
        rw [if_neg hw]
        exact wpOps_list l _ w h

/-- The region in each of its orders. -/
theorem wp_region_lines {P : Program} {id : Nat} {l : List Oper} {Q : Exit → Act → World → Prop} {a : Act} {w : World} (hm : P.follows .mixedOrders = true) (ls : List (List Nat))
    (hl : linesOf .any l.toArray l.toArray.size (Array.replicate l.toArray.size false) = ls)
    (h : ∀ x ∈ ls, wpList P l.toArray Q (x.filterMap fun i => l[i]?) a w.drew) : (Code.region id l.toArray true).wp P Q a w :=
  wp_region_draw fun t => by
    simp only [Region.schedule, hm, Bool.true_or, if_true]
    have := lines_mem .any l.toArray l.toArray.size t (Array.replicate l.toArray.size false)
    rw [hl] at this
    have hh := h _ this
    exact wpOps_list _ _ _ (by simpa [Region.linearise] using hh)
#print axioms wp_region_lines
end Go.Proofs.YtkkgfgllfbahlaaGreatFmt

namespace Go.Proofs.YtkkgfgllfbahlaaGreatFmt
open Go Go.RowKit

theorem beq_ne {a b : List UInt8} (h : ¬ a = b) : (a == b) = false := by simpa using h

set_option maxHeartbeats 1000000 in
theorem shList_tells (n : Nd) (kv : Value) (w : World) (hn : NdK w.heap.size w n kv) : Tells 66 #[nodeV n kv] w (shList n) := by
  obtain ⟨a, cap, hv, hcap, hm⟩ := hn.slice
  have HV := hide (fun W (h : Bel w W) => everyE_tells n.kids kv W (hn.sl.later h))
  clear hn
  subst hv
  obtain ⟨k, t, ks⟩ := n
  unfold nodeV Tells at *
  simp only [Nd.kids_mk, Nd.kind_mk, Nd.text_mk] at hcap HV ⊢
  go_enter Tryz.func66, Tryz.ntmps66
  go_wp2_with (go_at_call 37; ((with_reducible refine (HV.out _ ?_).mono ?_); (exact (by repeat (first | exact Bel.refl _ | assumption | refine Bel.alloc ?_ _ | refine Bel.drew ?_ | refine Bel.set ?_ (by first | exact Nat.le_refl _ | (simp; done) | (simp; omega)) _))); rintro e w1 ⟨rfl, hT⟩))
  all_goals
    go_ret
    first
      | (refine ⟨ret_bool rfl ?_, Bel.trans ((Bel.refl w).alloc _) hT⟩; clear HV; cases ks <;> simp_all [shList]; done)
      | (refine ⟨ret_bool rfl ?_, (by repeat (first | exact Bel.refl _ | assumption | refine Bel.alloc ?_ _ | refine Bel.drew ?_ | refine Bel.set ?_ (by first | exact Nat.le_refl _ | (simp; done) | (simp; omega)) _))⟩; clear HV; cases ks <;> simp_all [shList]; done)

set_option maxHeartbeats 1000000 in
theorem assignments_any (w : World) : Calls Tryz.prog 65 #[] w fun e w' => ∃ B, e = .returned (.slice (some ⟨B, 0, none⟩) 6 6) ∧ SlV w' (.slice (some ⟨B, 0, none⟩) 6 6) ([⟨#[61]⟩, ⟨#[58, 61]⟩, ⟨#[43, 61]⟩, ⟨#[45, 61]⟩, ⟨#[42, 61]⟩, ⟨#[47, 61]⟩].map strV) ∧ Bel w w' := by
  go_enter Tryz.func65, Tryz.ntmps65
  go_wp2_with fail
  go_ret
  exact ⟨w.heap.size, rfl, SlV.new w _ rfl _ _ 6 rfl (by decide), (by repeat (first | exact Bel.refl _ | assumption | refine Bel.alloc ?_ _ | refine Bel.drew ?_ | refine Bel.set ?_ (by first | exact Nat.le_refl _ | (simp; done) | (simp; omega)) _))⟩
theorem has_assignOps (t : ByteArray) : hasStr [⟨#[61]⟩, ⟨#[58, 61]⟩, ⟨#[43, 61]⟩, ⟨#[45, 61]⟩, ⟨#[42, 61]⟩, ⟨#[47, 61]⟩] t = decide (t.toList ∈ assignOps) := by
  rw [Bool.eq_iff_iff]
  simp [hasStr, assignOps]

set_option maxRecDepth 100000 in
set_option maxHeartbeats 4000000 in
theorem shSimple_assign (t : ByteArray) (ks : List Nd) (kv : Value) (w : World) (hn : NdK w.heap.size w (.mk ⟨#[97, 115, 115, 105, 103, 110]⟩ t ks) kv) : Tells 41 #[nodeV (.mk ⟨#[97, 115, 115, 105, 103, 110]⟩ t ks) kv] w (shSimple (.mk ⟨#[97, 115, 115, 105, 103, 110]⟩ t ks)) := by
  obtain ⟨a, cap, hv, hcap, hm⟩ := hn.slice
  have HV := hide (fun W (h : Bel w W) => every_any 66 #[] (fun _ _ => by kernel_rfl) shList W ks kv (hn.sl.later h) (FnAt.of fun k _ kv w hh => shList_tells k kv w hh))
  have HA := hide assignments_any
  have HC := hide (fun W v h => containsStr_any W [⟨#[61]⟩, ⟨#[58, 61]⟩, ⟨#[43, 61]⟩, ⟨#[45, 61]⟩, ⟨#[42, 61]⟩, ⟨#[47, 61]⟩] v t h)
  rw [has_assignOps] at HC
  clear hn
  subst hv
  unfold nodeV Tells at *
  simp only [Nd.kids_mk, Nd.kind_mk, Nd.text_mk] at hcap HV ⊢
  by_cases h2 : ks.length = 2
  · match ks, h2 with
    | [x, y], _ =>
      simp only [List.length_cons, List.length_nil] at HV ⊢
      by_cases ht : t.toList ∈ assignOps
      · rw [decide_eq_true ht] at HC
        have HT := hide ht
        clear ht
        go_enter Tryz.func41, Tryz.ntmps41
        go_wp2_with fail
        refine wp_region_lines (by kernel_rfl) [[0, 1, 2, 3, 4, 5, 6, 7, 8, 9, 10, 11, 12, 13], [1, 0, 2, 3, 4, 5, 6, 7, 8, 9, 10, 11, 12, 13], [1, 2, 0, 3, 4, 5, 6, 7, 8, 9, 10, 11, 12, 13]] (by kernel_rfl) ?_
        simp only [List.forall_mem_cons, List.not_mem_nil, List.filterMap_cons, List.filterMap_nil, List.getElem?_cons_zero, List.getElem?_cons_succ, false_implies, implies_true, and_true]
        refine ⟨?_, ?_, ?_⟩
        all_goals
          go_wp2_with fail
          refine (HA.out _).mono ?_
          rintro e w1 ⟨B, rfl, hs, hT⟩
          have hc := hT.cellN (N := w.heap.size + 1) (by simp)
          have hw : Bel w w1 := Bel.trans (by repeat (first | exact Bel.refl _ | assumption | refine Bel.alloc ?_ _ | refine Bel.drew ?_ | refine Bel.set ?_ (by first | exact Nat.le_refl _ | (simp; done) | (simp; omega)) _)) hT
          go_wp2_with fail
          refine (HC.out _ _ hs).mono ?_
          rintro e w2 ⟨rfl, rfl⟩
          go_wp2_with fail
          refine (HV.out _ ?_).mono ?_
          · exact hw
          rintro e w3 ⟨rfl, hT3⟩
          go_wp2_with fail
          go_ret
          exact ⟨ret_bool rfl (by simp [shSimple, HT.out]), hw.trans hT3⟩
      · rw [decide_eq_false ht] at HC
        have HT := hide ht
        clear ht
        go_enter Tryz.func41, Tryz.ntmps41
        go_wp2_with fail
        refine wp_region_lines (by kernel_rfl) [[0, 1, 2, 3, 4, 5, 6, 7, 8, 9, 10, 11, 12, 13], [1, 0, 2, 3, 4, 5, 6, 7, 8, 9, 10, 11, 12, 13], [1, 2, 0, 3, 4, 5, 6, 7, 8, 9, 10, 11, 12, 13]] (by kernel_rfl) ?_
        simp only [List.forall_mem_cons, List.not_mem_nil, List.filterMap_cons, List.filterMap_nil, List.getElem?_cons_zero, List.getElem?_cons_succ, false_implies, implies_true, and_true]
        refine ⟨?_, ?_, ?_⟩
        all_goals
          go_wp2_with fail
          refine (HA.out _).mono ?_
          rintro e w1 ⟨B, rfl, hs, hT⟩
          have hc := hT.cellN (N := w.heap.size + 1) (by simp)
          have hw : Bel w w1 := Bel.trans (by repeat (first | exact Bel.refl _ | assumption | refine Bel.alloc ?_ _ | refine Bel.drew ?_ | refine Bel.set ?_ (by first | exact Nat.le_refl _ | (simp; done) | (simp; omega)) _)) hT
          go_wp2_with fail
          refine (HC.out _ _ hs).mono ?_
          rintro e w2 ⟨rfl, rfl⟩
          go_wp2_with fail
          go_ret
          exact ⟨ret_bool rfl (by simp [shSimple, HT.out]), hw⟩
  · have hq : ((ks.length : Int) == 2) = false := len_ne (by omega)
    have HQ := hide h2
    clear h2
    by_cases ht : t.toList ∈ assignOps
    · rw [decide_eq_true ht] at HC
      have HT := hide ht
      clear ht
      go_enter Tryz.func41, Tryz.ntmps41
      go_wp2_with fail
      refine wp_region_lines (by kernel_rfl) [[0, 1, 2, 3, 4, 5, 6, 7, 8, 9, 10, 11, 12, 13], [1, 0, 2, 3, 4, 5, 6, 7, 8, 9, 10, 11, 12, 13], [1, 2, 0, 3, 4, 5, 6, 7, 8, 9, 10, 11, 12, 13]] (by kernel_rfl) ?_
      simp only [List.forall_mem_cons, List.not_mem_nil, List.filterMap_cons, List.filterMap_nil, List.getElem?_cons_zero, List.getElem?_cons_succ, false_implies, implies_true, and_true]
      refine ⟨?_, ?_, ?_⟩
      all_goals
        go_wp2_with fail
        refine (HA.out _).mono ?_
        rintro e w1 ⟨B, rfl, hs, hT⟩
        have hc := hT.cellN (N := w.heap.size + 1) (by simp)
        have hw : Bel w w1 := Bel.trans (by repeat (first | exact Bel.refl _ | assumption | refine Bel.alloc ?_ _ | refine Bel.drew ?_ | refine Bel.set ?_ (by first | exact Nat.le_refl _ | (simp; done) | (simp; omega)) _)) hT
        go_wp2_with fail
        refine (HC.out _ _ hs).mono ?_
        rintro e w2 ⟨rfl, rfl⟩
        go_wp2_with fail
        go_ret
        exact ⟨ret_bool rfl (by simp [shSimple, HQ.out]), hw⟩
    · rw [decide_eq_false ht] at HC
      have HT := hide ht
      clear ht
      go_enter Tryz.func41, Tryz.ntmps41
      go_wp2_with fail
      refine wp_region_lines (by kernel_rfl) [[0, 1, 2, 3, 4, 5, 6, 7, 8, 9, 10, 11, 12, 13], [1, 0, 2, 3, 4, 5, 6, 7, 8, 9, 10, 11, 12, 13], [1, 2, 0, 3, 4, 5, 6, 7, 8, 9, 10, 11, 12, 13]] (by kernel_rfl) ?_
      simp only [List.forall_mem_cons, List.not_mem_nil, List.filterMap_cons, List.filterMap_nil, List.getElem?_cons_zero, List.getElem?_cons_succ, false_implies, implies_true, and_true]
      refine ⟨?_, ?_, ?_⟩
      all_goals
        go_wp2_with fail
        refine (HA.out _).mono ?_
        rintro e w1 ⟨B, rfl, hs, hT⟩
        have hc := hT.cellN (N := w.heap.size + 1) (by simp)
        have hw : Bel w w1 := Bel.trans (by repeat (first | exact Bel.refl _ | assumption | refine Bel.alloc ?_ _ | refine Bel.drew ?_ | refine Bel.set ?_ (by first | exact Nat.le_refl _ | (simp; done) | (simp; omega)) _)) hT
        go_wp2_with fail
        refine (HC.out _ _ hs).mono ?_
        rintro e w2 ⟨rfl, rfl⟩
        go_wp2_with fail
        go_ret
        exact ⟨ret_bool rfl (by simp [shSimple, HQ.out]), hw⟩

set_option maxRecDepth 100000 in
set_option maxHeartbeats 4000000 in
/-- One operand (expression, step). -/
theorem shSimple_one (k t : ByteArray) (hk : k = ⟨#[101, 120, 112, 114, 101, 115, 115, 105, 111, 110]⟩ ∨ k = ⟨#[115, 116, 101, 112]⟩) (ks : List Nd) (kv : Value) (w : World) (hn : NdK w.heap.size w (.mk k t ks) kv) : Tells 41 #[nodeV (.mk k t ks) kv] w (shSimple (.mk k t ks)) := by
  by_cases h1 : ks.length = 1
  · match ks, h1 with
    | [a], _ =>
      simp only [NdK, RowK] at hn
      rcases hn with ⟨_, hn⟩ | ⟨bl, o, cap, rfl, hcap, hm, va, hb, a0, a1, a2, hna, _⟩
      · simp at hn
      have HA := hide (fun W (h : Bel w W) => shE_tells a va W (hna.later h))
      clear hna
      unfold maxLen at hm
      unfold nodeV Tells at *
      simp only [List.length_cons, List.length_nil] at hcap ⊢
      rcases hk with rfl | rfl
      all_goals
        go_enter Tryz.func41, Tryz.ntmps41
        go_wp2_with (go_at_call 36; ((with_reducible refine (HA.out _ ?_).mono ?_); (exact (by repeat (first | exact Bel.refl _ | assumption | refine Bel.alloc ?_ _ | refine Bel.drew ?_ | refine Bel.set ?_ (by first | exact Nat.le_refl _ | (simp; done) | (simp; omega)) _))); rintro e w1 ⟨rfl, hT⟩))
        all_goals
          go_ret
          first
            | (refine ⟨ret_bool rfl ?_, Bel.trans ((Bel.refl w).alloc _) hT⟩; clear HA; simp_all [shSimple]; done)
            | (refine ⟨ret_bool rfl ?_, (by repeat (first | exact Bel.refl _ | assumption | refine Bel.alloc ?_ _ | refine Bel.drew ?_ | refine Bel.set ?_ (by first | exact Nat.le_refl _ | (simp; done) | (simp; omega)) _))⟩; clear HA; simp_all [shSimple]; done)
  · obtain ⟨a, cap, rfl, hcap, hm⟩ := hn.slice
    have hq : ((ks.length : Int) == 1) = false := len_ne (by omega)
    have hs : shSimple (.mk k t ks) = false := by
      rcases hk with rfl | rfl
      all_goals
        match ks, h1 with
        | [], _ => simp [shSimple]
        | a :: b :: r, _ => simp [shSimple]
    have HS := hide hs
    unfold nodeV Tells
    simp only [Nd.kids_mk, Nd.kind_mk, Nd.text_mk] at hcap ⊢
    clear hn h1 hs
    rcases hk with rfl | rfl
    all_goals
      go_enter Tryz.func41, Tryz.ntmps41
      go_wp2_with fail
      all_goals
        go_ret
        exact ⟨ret_bool rfl HS.out.symm, (by repeat (first | exact Bel.refl _ | assumption | refine Bel.alloc ?_ _ | refine Bel.drew ?_ | refine Bel.set ?_ (by first | exact Nat.le_refl _ | (simp; done) | (simp; omega)) _))⟩

set_option maxRecDepth 100000 in
set_option maxHeartbeats 4000000 in
theorem shSimple_send (t : ByteArray) (ks : List Nd) (kv : Value) (w : World) (hn : NdK w.heap.size w (.mk ⟨#[115, 101, 110, 100]⟩ t ks) kv) : Tells 41 #[nodeV (.mk ⟨#[115, 101, 110, 100]⟩ t ks) kv] w (shSimple (.mk ⟨#[115, 101, 110, 100]⟩ t ks)) := by
  obtain ⟨a, cap, hv, hcap, hm⟩ := hn.slice
  have HV := hide (fun W (h : Bel w W) => everyE_tells ks kv W (hn.sl.later h))
  clear hn
  subst hv
  unfold nodeV Tells at *
  simp only [Nd.kids_mk, Nd.kind_mk, Nd.text_mk] at hcap HV ⊢
  by_cases ht : t.toList = []
  · by_cases h2 : ks.length = 2
    · match ks, h2 with
      | [x, y], _ =>
        simp only [List.length_cons, List.length_nil] at HV hcap ⊢
        go_enter Tryz.func41, Tryz.ntmps41
        go_wp2_with fail
        refine (HV.out _ ?_).mono ?_
        · exact (by repeat (first | exact Bel.refl _ | assumption | refine Bel.alloc ?_ _ | refine Bel.drew ?_ | refine Bel.set ?_ (by first | exact Nat.le_refl _ | (simp; done) | (simp; omega)) _))
        rintro e w1 ⟨rfl, hT⟩
        have hw : Bel w w1 := Bel.trans (by repeat (first | exact Bel.refl _ | assumption | refine Bel.alloc ?_ _ | refine Bel.drew ?_ | refine Bel.set ?_ (by first | exact Nat.le_refl _ | (simp; done) | (simp; omega)) _)) hT
        go_wp2_with fail
        go_ret
        exact ⟨ret_bool rfl (by simp [shSimple, ht]), hw⟩
    · have hq : ((ks.length : Int) == 2) = false := len_ne (by omega)
      have HQ := hide h2
      clear h2
      go_enter Tryz.func41, Tryz.ntmps41
      go_wp2_with fail
      go_ret
      exact ⟨ret_bool rfl (by simp [shSimple, HQ.out]), (by repeat (first | exact Bel.refl _ | assumption | refine Bel.alloc ?_ _ | refine Bel.drew ?_ | refine Bel.set ?_ (by first | exact Nat.le_refl _ | (simp; done) | (simp; omega)) _))⟩
  · go_enter Tryz.func41, Tryz.ntmps41
    go_wp2_with fail
    go_ret
    exact ⟨ret_bool rfl (by simp [shSimple, ht]), (by repeat (first | exact Bel.refl _ | assumption | refine Bel.alloc ?_ _ | refine Bel.drew ?_ | refine Bel.set ?_ (by first | exact Nat.le_refl _ | (simp; done) | (simp; omega)) _))⟩

set_option maxRecDepth 100000 in
set_option maxHeartbeats 4000000 in
theorem shSimple_none (k t : ByteArray) (h1 : ¬ k.toList = [101, 120, 112, 114, 101, 115, 115, 105, 111, 110]) (h2 : ¬ k.toList = [115, 116, 101, 112]) (h3 : ¬ k.toList = [115, 101, 110, 100]) (h4 : ¬ k.toList = [97, 115, 115, 105, 103, 110]) (ks : List Nd) (kv : Value) (w : World) (hn : NdK w.heap.size w (.mk k t ks) kv) : Tells 41 #[nodeV (.mk k t ks) kv] w (shSimple (.mk k t ks)) := by
  obtain ⟨a, cap, rfl, hcap, hm⟩ := hn.slice
  have HS := hide (show shSimple (.mk k t ks) = false by simp [shSimple, h1, h2, h3, h4])
  have m1 := beq_ne h1
  have m2 := beq_ne h2
  have m3 := beq_ne h3
  have m4 := beq_ne h4
  unfold nodeV Tells
  simp only [Nd.kids_mk, Nd.kind_mk, Nd.text_mk] at hcap ⊢
  clear hn h1 h2 h3 h4
  go_enter Tryz.func41, Tryz.ntmps41
  go_wp2_with fail
  go_ret
  exact ⟨ret_bool rfl HS.out.symm, (by repeat (first | exact Bel.refl _ | assumption | refine Bel.alloc ?_ _ | refine Bel.drew ?_ | refine Bel.set ?_ (by first | exact Nat.le_refl _ | (simp; done) | (simp; omega)) _))⟩

theorem shSimple_tells (n : Nd) (kv : Value) (w : World) (hn : NdK w.heap.size w n kv) : Tells 41 #[nodeV n kv] w (shSimple n) := by
  obtain ⟨k, t, ks⟩ := n
  by_cases h1 : k.toList = [101, 120, 112, 114, 101, 115, 115, 105, 111, 110]
  · exact shSimple_one k t (.inl (ba_eq h1)) ks kv w hn
  by_cases h2 : k.toList = [115, 116, 101, 112]
  · exact shSimple_one k t (.inr (ba_eq h2)) ks kv w hn
  by_cases h3 : k.toList = [115, 101, 110, 100]
  · obtain rfl := ba_eq h3
    exact shSimple_send t ks kv w hn
  by_cases h4 : k.toList = [97, 115, 115, 105, 103, 110]
  · obtain rfl := ba_eq h4
    exact shSimple_assign t ks kv w hn
  exact shSimple_none k t h1 h2 h3 h4 ks kv w hn
end Go.Proofs.YtkkgfgllfbahlaaGreatFmt
