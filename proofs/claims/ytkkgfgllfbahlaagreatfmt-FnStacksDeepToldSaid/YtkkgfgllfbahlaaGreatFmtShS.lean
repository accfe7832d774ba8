/- spec.shapedBlock, shapedClauses, shapedRange, shapedHead, shapedStmt tell shBlock .. shS.
spec.shapedRange, shapedHead, shapedStmt tell shS; count, few, Shaped, zzFits1. -/
import Derived.Test.YtkkgfgllfbahlaaGreatFmtOrd
set_option linter.unusedVariables false
set_option linter.unusedSimpArgs false
namespace Go.Proofs.YtkkgfgllfbahlaaGreatFmt
open Go Go.RowKit

def StTells (k : Nd) : Prop := ∀ kv w, NdK w.heap.size w k kv → Tells 24 #[nodeV k kv] w (shS k)

theorem shBlock_eq (k t : ByteArray) (ks : List Nd) : shBlock (.mk k t ks) = (decide (k.toList = [98, 108, 111, 99, 107]) && decide (t.toList = []) && ks.all shS) := by
  simp [shBlock, shSL_all]
def clB (head : Nd → Bool) : List Nd → Bool
  | [] => false
  | h :: b => orM head h && b.all shS
theorem shCl_eq (head : Nd → Bool) (k t : ByteArray) (ks : List Nd) : shCl head (.mk k t ks) = (decide (k.toList = [99, 108, 97, 117, 115, 101]) && decide (t.toList = []) && clB head ks) := by
  cases ks <;> simp [shCl, clB, orM, shSL_all]
theorem shCls_eq (head : Nd → Bool) (k t : ByteArray) (ks : List Nd) : shCls head (.mk k t ks) = (decide (k.toList = [98, 108, 111, 99, 107]) && decide (t.toList = []) && ks.all (shCl head)) := by
  simp [shCls, shClL_all]

set_option maxHeartbeats 2000000 in
theorem shBlock_tells (n : Nd) (kv : Value) (w : World) (hn : NdK w.heap.size w n kv) (ih : ∀ k, k ∈ n.kids → StTells k) : Tells 39 #[nodeV n kv] w (shBlock n) := by
  obtain ⟨a, cap, hv, hcap, hm⟩ := hn.slice
  have HV := hide (fun W (h : Bel w W) => every_any 24 #[] (fun _ _ => by kernel_rfl) shS W n.kids kv (hn.sl.later h) (FnAt.of fun k hk kv w hh => ih k hk kv w hh))
  clear hn ih
  subst hv
  obtain ⟨k, t, ks⟩ := n
  unfold nodeV Tells at *
  simp only [Nd.kids_mk, Nd.kind_mk, Nd.text_mk] at hcap HV ⊢
  by_cases hk : k.toList = [98, 108, 111, 99, 107]
  · obtain rfl := ba_eq hk
    clear hk
    by_cases ht : t.toList = []
    · go_enter Tryz.func39, Tryz.ntmps39
      go_wp2_with fail
      refine (HV.out _ ?_).mono ?_
      · exact (by repeat (first | exact Bel.refl _ | assumption | refine Bel.alloc ?_ _ | refine Bel.drew ?_ | refine Bel.set ?_ (by first | exact Nat.le_refl _ | (simp; done) | (simp; omega)) _))
      rintro e w1 ⟨rfl, hT⟩
      have hw : Bel w w1 := Bel.trans (by repeat (first | exact Bel.refl _ | assumption | refine Bel.alloc ?_ _ | refine Bel.drew ?_ | refine Bel.set ?_ (by first | exact Nat.le_refl _ | (simp; done) | (simp; omega)) _)) hT
      have hc := hT.cellN (N := w.heap.size + 1) (by simp)
      go_wp2_with fail
      go_ret
      exact ⟨ret_bool rfl (by simp [shBlock_eq, ht]), hw⟩
    · go_enter Tryz.func39, Tryz.ntmps39
      go_wp2_with fail
      go_ret
      exact ⟨ret_bool rfl (by simp [shBlock_eq, ht]), (by repeat (first | exact Bel.refl _ | assumption | refine Bel.alloc ?_ _ | refine Bel.drew ?_ | refine Bel.set ?_ (by first | exact Nat.le_refl _ | (simp; done) | (simp; omega)) _))⟩
  · have hq := beq_ne hk
    go_enter Tryz.func39, Tryz.ntmps39
    go_wp2_with fail
    go_ret
    exact ⟨ret_bool rfl (by simp [shBlock_eq, hk]), (by repeat (first | exact Bel.refl _ | assumption | refine Bel.alloc ?_ _ | refine Bel.drew ?_ | refine Bel.set ?_ (by first | exact Nat.le_refl _ | (simp; done) | (simp; omega)) _))⟩

theorem RowK.tail {N : Nat} {w : World} {k : Nd} {ks : List Nd} {b o : Nat} (h : RowK N w (k :: ks) b o) : RowK N w ks b (o + 3) := by
  simp only [RowK] at h
  obtain ⟨_, _, _, _, _, _, h⟩ := h
  exact h

set_option maxRecDepth 100000 in
set_option maxHeartbeats 4000000 in
/-- The closure of shapedClauses: one clause. -/
theorem shCl_at (f : FuncId) (hft : ∀ args w, (callFunc f args).run Tryz.prog w = .ok (.enter f args) w) (p : Nd → Bool) (w0 : World) (ks : List Nd) (B : Nat) (hB : B < w0.heap.size) (hc0 : w0.cell? ⟨B, 0, none⟩ = some (.func (.func f) #[] #[]))
    (hp : ∀ k kv w, NdK w.heap.size w k kv → Tells f #[nodeV k kv] w (p k)) (ih : ∀ c, c ∈ ks → ∀ k, k ∈ c.kids → StTells k) : FnAt 86 #[.pointer (some ⟨B, 0, none⟩)] (shCl p) w0 ks := by
  intro c hcm kv w hs hn
  have ih := ih c hcm
  have hcw := (hs.cell B 0 hB).trans hc0
  have hB' : B < w.heap.size := Nat.lt_of_lt_of_le hB hs.le
  clear hc0 hs hcm hB
  obtain ⟨k, t, cs⟩ := c
  simp only [Nd.kids_mk] at ih
  by_cases hcl : k.toList = [99, 108, 97, 117, 115, 101] ∧ t.toList = [] ∧ cs ≠ []
  · obtain ⟨hk, ht, hne⟩ := hcl
    obtain rfl := ba_eq hk
    clear hk
    match cs, hne with
    | h :: body, _ =>
      simp only [NdK, RowK] at hn
      rcases hn with ⟨_, hn⟩ | ⟨bl, o, cap, rfl, hcap, hm, va, hb, a0, a1, a2, hna, hr⟩
      · simp at hn
      have HO := hide (fun W (hw : Bel w W) => or_any f #[] hft p h va W (hna.later hw) (FnAt.of fun k hk kv w hh => by
        rcases List.mem_singleton.1 hk with rfl
        exact hp _ kv w hh))
      have HV := hide (fun W (hw : Bel w W) v hv => every_any 24 #[] (fun _ _ => by kernel_rfl) shS W body v hv (FnAt.of fun k hk kv w hh => ih k (List.mem_cons_of_mem _ hk) kv w hh))
      have HR := hide hr
      clear ih hp hna hr
      unfold maxLen at hm
      unfold nodeV at HO ⊢
      simp only [List.length_cons, Nd.kind_mk, Nd.text_mk] at hcap ⊢
      have hl0 : 0 < body.length + 1 := by omega
      have HE := hide (show body.length ≤ cap - 1 ∧ cap - 1 ≤ maxLen by unfold maxLen; omega)
      go_enter Tryz.func86, Tryz.ntmps86
      go_wp2_with fail
      refine wp_region_lines (by kernel_rfl) [[0, 1, 2, 3, 4, 5, 6, 7, 8, 9, 10, 11, 12, 13, 14, 15, 16, 17, 18, 19, 20, 21, 22, 23, 24, 25, 26, 27, 28], [0, 1, 2, 3, 4, 5, 6, 7, 8, 9, 10, 11, 12, 13, 14, 15, 16, 17, 19, 18, 20, 21, 22, 23, 24, 25, 26, 27, 28], [0, 1, 2, 3, 4, 5, 6, 7, 8, 9, 10, 11, 12, 13, 14, 15, 16, 19, 17, 18, 20, 21, 22, 23, 24, 25, 26, 27, 28], [0, 1, 2, 3, 4, 5, 6, 7, 8, 9, 10, 11, 12, 13, 14, 15, 19, 16, 17, 18, 20, 21, 22, 23, 24, 25, 26, 27, 28], [0, 1, 2, 3, 4, 5, 6, 7, 8, 9, 10, 11, 12, 13, 14, 19, 15, 16, 17, 18, 20, 21, 22, 23, 24, 25, 26, 27, 28]] (by kernel_rfl) ?_
      simp only [List.forall_mem_cons, List.not_mem_nil, List.filterMap_cons, List.filterMap_nil, List.getElem?_cons_zero, List.getElem?_cons_succ, false_implies, implies_true, and_true]
      refine ⟨?_, ?_, ?_, ?_, ?_⟩
      all_goals
        go_wp2_with fail
        refine (HO.out _ ?_).mono ?_
        · exact (by repeat (first | exact Bel.refl _ | assumption | refine Bel.alloc ?_ _ | refine Bel.drew ?_ | refine Bel.set ?_ (by first | exact Nat.le_refl _ | (simp; done) | (simp; omega)) _))
        rintro e w1 ⟨rfl, hT⟩
        have hw : Bel w w1 := Bel.trans (by repeat (first | exact Bel.refl _ | assumption | refine Bel.alloc ?_ _ | refine Bel.drew ?_ | refine Bel.set ?_ (by first | exact Nat.le_refl _ | (simp; done) | (simp; omega)) _)) hT
        have hc := hT.cellN (N := w.heap.size + 1) (by simp)
        cases hor : orM p h
        · go_wp2_with fail
          go_ret
          exact ⟨ret_bool rfl (by simp [shCl_eq, clB, hor]), hw⟩
        · by_cases hc1 : cap = 1
          · subst hc1
            obtain rfl : body = [] := List.eq_nil_of_length_eq_zero (Nat.le_zero.1 HE.out.1)
            go_wp2_with fail
            refine (HV.out _ ?_ _ ?_).mono ?_
            · exact hw
            · exact .inr ⟨_, _, _, rfl, Nat.zero_le _, by decide, trivial⟩
            rintro e w2 ⟨rfl, hT2⟩
            have hw := hw.trans hT2
            go_wp2_with fail
            go_ret
            exact ⟨ret_bool rfl (by simp [shCl_eq, clB, hor, ht]), hw⟩
          · go_wp2_with fail
            refine (HV.out _ ?_ _ ?_).mono ?_
            · exact hw
            · refine .inr ⟨bl, o + 3, cap - 1, rfl, HE.out.1, HE.out.2, ?_⟩
              exact RowK.stay hw.le (hw.same (Nat.le_refl _)) _ _ _ HR.out
            rintro e w2 ⟨rfl, hT2⟩
            have hw := hw.trans hT2
            go_wp2_with fail
            go_ret
            exact ⟨ret_bool rfl (by simp [shCl_eq, clB, hor, ht]), hw⟩
  · obtain ⟨a, cap, rfl, hcap, hm⟩ := hn.slice
    have HS := hide (show shCl p (.mk k t cs) = false by
      rw [shCl_eq]
      by_cases hk : k.toList = [99, 108, 97, 117, 115, 101]
      · by_cases ht : t.toList = []
        · have : cs = [] := by simpa [hk, ht] using hcl
          simp [this, clB]
        · simp [ht]
      · simp [hk])
    unfold nodeV
    simp only [Nd.kids_mk, Nd.kind_mk, Nd.text_mk] at hcap ⊢
    clear hn ih hp
    by_cases hk : k.toList = [99, 108, 97, 117, 115, 101]
    · obtain rfl := ba_eq hk
      by_cases ht : t.toList = []
      · obtain rfl : cs = [] := by simpa [ht] using hcl
        clear hcl hk
        simp only [List.length_nil] at hcap ⊢
        go_enter Tryz.func86, Tryz.ntmps86
        go_wp2_with fail
        refine wp_region_lines (by kernel_rfl) [[0, 1, 2, 3, 4, 5, 6, 7, 8, 9, 10, 11, 12, 13, 14, 15, 16, 17, 18, 19, 20, 21, 22, 23, 24, 25, 26, 27, 28], [0, 1, 2, 3, 4, 5, 6, 7, 8, 9, 10, 11, 12, 13, 14, 15, 16, 17, 19, 18, 20, 21, 22, 23, 24, 25, 26, 27, 28], [0, 1, 2, 3, 4, 5, 6, 7, 8, 9, 10, 11, 12, 13, 14, 15, 16, 19, 17, 18, 20, 21, 22, 23, 24, 25, 26, 27, 28], [0, 1, 2, 3, 4, 5, 6, 7, 8, 9, 10, 11, 12, 13, 14, 15, 19, 16, 17, 18, 20, 21, 22, 23, 24, 25, 26, 27, 28], [0, 1, 2, 3, 4, 5, 6, 7, 8, 9, 10, 11, 12, 13, 14, 19, 15, 16, 17, 18, 20, 21, 22, 23, 24, 25, 26, 27, 28]] (by kernel_rfl) ?_
        simp only [List.forall_mem_cons, List.not_mem_nil, List.filterMap_cons, List.filterMap_nil, List.getElem?_cons_zero, List.getElem?_cons_succ, false_implies, implies_true, and_true]
        refine ⟨?_, ?_, ?_, ?_, ?_⟩
        all_goals
          go_wp2_with fail
          go_ret
          exact ⟨ret_bool rfl HS.out.symm, (by repeat (first | exact Bel.refl _ | assumption | refine Bel.alloc ?_ _ | refine Bel.drew ?_ | refine Bel.set ?_ (by first | exact Nat.le_refl _ | (simp; done) | (simp; omega)) _))⟩
      · clear hcl hk
        go_enter Tryz.func86, Tryz.ntmps86
        go_wp2_with fail
        refine wp_region_lines (by kernel_rfl) [[0, 1, 2, 3, 4, 5, 6, 7, 8, 9, 10, 11, 12, 13, 14, 15, 16, 17, 18, 19, 20, 21, 22, 23, 24, 25, 26, 27, 28], [0, 1, 2, 3, 4, 5, 6, 7, 8, 9, 10, 11, 12, 13, 14, 15, 16, 17, 19, 18, 20, 21, 22, 23, 24, 25, 26, 27, 28], [0, 1, 2, 3, 4, 5, 6, 7, 8, 9, 10, 11, 12, 13, 14, 15, 16, 19, 17, 18, 20, 21, 22, 23, 24, 25, 26, 27, 28], [0, 1, 2, 3, 4, 5, 6, 7, 8, 9, 10, 11, 12, 13, 14, 15, 19, 16, 17, 18, 20, 21, 22, 23, 24, 25, 26, 27, 28], [0, 1, 2, 3, 4, 5, 6, 7, 8, 9, 10, 11, 12, 13, 14, 19, 15, 16, 17, 18, 20, 21, 22, 23, 24, 25, 26, 27, 28]] (by kernel_rfl) ?_
        simp only [List.forall_mem_cons, List.not_mem_nil, List.filterMap_cons, List.filterMap_nil, List.getElem?_cons_zero, List.getElem?_cons_succ, false_implies, implies_true, and_true]
        refine ⟨?_, ?_, ?_, ?_, ?_⟩
        all_goals
          go_wp2_with fail
          go_ret
          exact ⟨ret_bool rfl HS.out.symm, (by repeat (first | exact Bel.refl _ | assumption | refine Bel.alloc ?_ _ | refine Bel.drew ?_ | refine Bel.set ?_ (by first | exact Nat.le_refl _ | (simp; done) | (simp; omega)) _))⟩
    · have hq := beq_ne hk
      clear hcl hk
      go_enter Tryz.func86, Tryz.ntmps86
      go_wp2_with fail
      refine wp_region_lines (by kernel_rfl) [[0, 1, 2, 3, 4, 5, 6, 7, 8, 9, 10, 11, 12, 13, 14, 15, 16, 17, 18, 19, 20, 21, 22, 23, 24, 25, 26, 27, 28], [0, 1, 2, 3, 4, 5, 6, 7, 8, 9, 10, 11, 12, 13, 14, 15, 16, 17, 19, 18, 20, 21, 22, 23, 24, 25, 26, 27, 28], [0, 1, 2, 3, 4, 5, 6, 7, 8, 9, 10, 11, 12, 13, 14, 15, 16, 19, 17, 18, 20, 21, 22, 23, 24, 25, 26, 27, 28], [0, 1, 2, 3, 4, 5, 6, 7, 8, 9, 10, 11, 12, 13, 14, 15, 19, 16, 17, 18, 20, 21, 22, 23, 24, 25, 26, 27, 28], [0, 1, 2, 3, 4, 5, 6, 7, 8, 9, 10, 11, 12, 13, 14, 19, 15, 16, 17, 18, 20, 21, 22, 23, 24, 25, 26, 27, 28]] (by kernel_rfl) ?_
      simp only [List.forall_mem_cons, List.not_mem_nil, List.filterMap_cons, List.filterMap_nil, List.getElem?_cons_zero, List.getElem?_cons_succ, false_implies, implies_true, and_true]
      refine ⟨?_, ?_, ?_, ?_, ?_⟩
      all_goals
        go_wp2_with fail
        go_ret
        exact ⟨ret_bool rfl HS.out.symm, (by repeat (first | exact Bel.refl _ | assumption | refine Bel.alloc ?_ _ | refine Bel.drew ?_ | refine Bel.set ?_ (by first | exact Nat.le_refl _ | (simp; done) | (simp; omega)) _))⟩
end Go.Proofs.YtkkgfgllfbahlaaGreatFmt

namespace Go.Proofs.YtkkgfgllfbahlaaGreatFmt
open Go Go.RowKit

/-- A node whose kids, and theirs, tell. -/
def Deep (k : Nd) : Prop := StTells k ∧ (∀ c, c ∈ k.kids → StTells c) ∧ ∀ c, c ∈ k.kids → ∀ d, d ∈ c.kids → StTells d

set_option maxHeartbeats 2000000 in
theorem shCls_tells (f : FuncId) (hft : ∀ args w, (callFunc f args).run Tryz.prog w = .ok (.enter f args) w) (p : Nd → Bool) (hp : ∀ k kv w, NdK w.heap.size w k kv → Tells f #[nodeV k kv] w (p k)) (n : Nd) (kv : Value) (w : World) (hn : NdK w.heap.size w n kv)
    (ih : ∀ c, c ∈ n.kids → ∀ k, k ∈ c.kids → StTells k) : Tells 67 #[nodeV n kv, .func (.func f) #[] #[]] w (shCls p n) := by
  obtain ⟨a, cap, hv, hcap, hm⟩ := hn.slice
  have HV := hide (fun W (h : Bel w W) B hB hc => every_any 86 #[.pointer (some ⟨B, 0, none⟩)] (fun _ _ => by kernel_rfl) (shCl p) W n.kids kv (hn.sl.later h) (shCl_at f hft p W n.kids B hB hc hp ih))
  clear hn ih hp
  subst hv
  obtain ⟨k, t, ks⟩ := n
  unfold nodeV Tells at *
  simp only [Nd.kids_mk, Nd.kind_mk, Nd.text_mk] at hcap HV ⊢
  by_cases hk : k.toList = [98, 108, 111, 99, 107]
  · obtain rfl := ba_eq hk
    clear hk
    by_cases ht : t.toList = []
    · go_enter Tryz.func67, Tryz.ntmps67
      go_wp2_with fail
      refine (HV.out _ ?_ _ ?_ ?_).mono ?_
      · exact (by repeat (first | exact Bel.refl _ | assumption | refine Bel.alloc ?_ _ | refine Bel.drew ?_ | refine Bel.set ?_ (by first | exact Nat.le_refl _ | (simp; done) | (simp; omega)) _))
      · simp
      · simp
      rintro e w1 ⟨rfl, hT⟩
      have hw : Bel w w1 := Bel.trans (by repeat (first | exact Bel.refl _ | assumption | refine Bel.alloc ?_ _ | refine Bel.drew ?_ | refine Bel.set ?_ (by first | exact Nat.le_refl _ | (simp; done) | (simp; omega)) _)) hT
      go_wp2_with fail
      go_ret
      exact ⟨ret_bool rfl (by simp [shCls_eq, ht]), hw⟩
    · go_enter Tryz.func67, Tryz.ntmps67
      go_wp2_with fail
      go_ret
      exact ⟨ret_bool rfl (by simp [shCls_eq, ht]), (by repeat (first | exact Bel.refl _ | assumption | refine Bel.alloc ?_ _ | refine Bel.drew ?_ | refine Bel.set ?_ (by first | exact Nat.le_refl _ | (simp; done) | (simp; omega)) _))⟩
  · have hq := beq_ne hk
    go_enter Tryz.func67, Tryz.ntmps67
    go_wp2_with fail
    go_ret
    exact ⟨ret_bool rfl (by simp [shCls_eq, hk]), (by repeat (first | exact Bel.refl _ | assumption | refine Bel.alloc ?_ _ | refine Bel.drew ?_ | refine Bel.set ?_ (by first | exact Nat.le_refl _ | (simp; done) | (simp; omega)) _))⟩
end Go.Proofs.YtkkgfgllfbahlaaGreatFmt
