/- The reference's Shaped: contracts of missing .. shapedStmt, count, few. Each returns what the plain function of XShape tells, and leaves all that lay as it lay.
spec.shapedExpr tells shE; shapedList tells shList; shapedSimple tells shSimple. -/
import Derived.Test.YtkkgfgllfbahlaaGreatFmtTree
set_option linter.unusedVariables false
set_option linter.unusedSimpArgs false
namespace Go.Proofs.YtkkgfgllfbahlaaGreatFmt
open Go Go.RowKit

/-- What a test of a node promises: it tells b, and turns nothing. -/
def Tells (f : FuncId) (args : Array Value) (w : World) (b : Bool) : Prop := Calls Tryz.prog f args w fun e w' => e = .returned (.bool b) ∧ Bel w w'

theorem FnAt.of {f : FuncId} {p : Nd → Bool} {w : World} {ks : List Nd} (h : ∀ k, k ∈ ks → ∀ kv w1, NdK w1.heap.size w1 k kv → Tells f #[nodeV k kv] w1 (p k)) : FnAt f #[] p w ks :=
  fun k hk kv w1 _ hkv => h k hk kv w1 hkv

theorem NdK.sl {N : Nat} {w : World} {n : Nd} {v : Value} (h : NdK N w n v) : SlK N w n.kids v := NdK_iff.1 h

def prec1 : List ByteArray := [⟨#[124, 124]⟩]
def prec2 : List ByteArray := [⟨#[38, 38]⟩]
def prec3 : List ByteArray := [⟨#[61, 61]⟩, ⟨#[33, 61]⟩, ⟨#[60]⟩]
def prec4 : List ByteArray := [⟨#[43]⟩, ⟨#[45]⟩]
def prec5 : List ByteArray := [⟨#[42]⟩, ⟨#[47]⟩]
theorem prec_cases (t : ByteArray) :
    (hasStr prec1 t = true ∧ prec t.toList = 1) ∨ (hasStr prec1 t = false ∧ hasStr prec2 t = true ∧ prec t.toList = 2) ∨ (hasStr prec1 t = false ∧ hasStr prec2 t = false ∧ hasStr prec3 t = true ∧ prec t.toList = 3) ∨
    (hasStr prec1 t = false ∧ hasStr prec2 t = false ∧ hasStr prec3 t = false ∧ hasStr prec4 t = true ∧ prec t.toList = 4) ∨ (hasStr prec1 t = false ∧ hasStr prec2 t = false ∧ hasStr prec3 t = false ∧ hasStr prec4 t = false ∧ hasStr prec5 t = true ∧ prec t.toList = 5) ∨
    (hasStr prec1 t = false ∧ hasStr prec2 t = false ∧ hasStr prec3 t = false ∧ hasStr prec4 t = false ∧ hasStr prec5 t = false ∧ prec t.toList = 0) := by
  simp only [hasStr, prec1, prec2, prec3, prec4, prec5, prec, ByteArray.toList_mk, List.any_cons, List.any_nil, Bool.or_false, Bool.or_eq_true, Bool.or_eq_false_iff, decide_eq_true_eq, decide_eq_false_iff_not]
  by_cases h1 : t.toList = [124, 124]
  · simp [h1]
  by_cases h2 : t.toList = [38, 38]
  · simp [h2]
  by_cases h3 : t.toList = [61, 61] ∨ t.toList = [33, 61] ∨ t.toList = [60]
  · rcases h3 with h3 | h3 | h3 <;> simp [h3]
  by_cases h4 : t.toList = [43] ∨ t.toList = [45]
  · rcases h4 with h4 | h4 <;> simp [h4]
  by_cases h5 : t.toList = [42] ∨ t.toList = [47]
  · rcases h5 with h5 | h5 <;> simp [h5]
  simp only [not_or] at h3 h4 h5
  simp [h1, h2, h3, h4, h5]

/-- A slice over a block that is known whole. -/
theorem SlV.block {W : World} {B : Nat} {vs : List Value} {t : TypeId} (n : Nat) (hn : vs.length = n) (h : W.heap[B]? = some (.cells vs.toArray t (0, 0))) (hm : n ≤ maxLen) : SlV W (.slice (some ⟨B, 0, none⟩) n n) vs := by
  subst hn
  exact .inr ⟨_, _, _, rfl, Nat.le_refl _, hm, fun i v hi => by rw [Nat.zero_add, cell_of_row _ B i vs.toArray t (0, 0) h]; simpa using hi⟩
theorem heap_alloc_at {w : World} {o : Obj} {B : Nat} (hB : w.heap.size = B) : (w.alloc o).heap[B]? = some o := by subst hB; exact heap_alloc_new w o
theorem heap_alloc_lt {w : World} {o o' : Obj} {B : Nat} (h : w.heap[B]? = some o') : (w.alloc o).heap[B]? = some o' :=
  (Below.heap_alloc w o B (Array.getElem?_eq_some_iff.1 h).1).trans h

set_option maxHeartbeats 1000000 in
theorem prec_any (w : World) (t : ByteArray) : Calls Tryz.prog 60 #[.string t] w fun e w' => e = .returned (.int .i64 (prec t.toList)) ∧ Bel w w' := by
  have HC := hide (fun W v ss h => containsStr_any W ss v t h)
  rcases prec_cases t with ⟨h1, hp⟩ | ⟨h1, h2, hp⟩ | ⟨h1, h2, h3, hp⟩ | ⟨h1, h2, h3, h4, hp⟩ | ⟨h1, h2, h3, h4, h5, hp⟩ | ⟨h1, h2, h3, h4, h5, hp⟩
  all_goals
    have HP := hide hp; clear hp
    go_enter Tryz.func60, Tryz.ntmps60
    go_wp2_with fail
    refine wp_loop_rounds 6 ?_
    rw [rounds_succ]
    go_wp2_with fail
    refine (HC.out _ _ prec1 ?_).mono ?_
    · exact SlV.block 1 rfl (t := 9) (by repeat (first | exact heap_alloc_at (by simp) | refine heap_alloc_lt ?_)) (by decide)
    rintro e w1 ⟨rfl, rfl⟩
    try simp only [h1]
  · go_wp2_with fail
    go_ret
    exact ⟨by rw [HP.out]; rfl, (by repeat (first | exact Bel.refl _ | assumption | refine Bel.alloc ?_ _ | refine Bel.drew ?_ | refine Bel.set ?_ (by first | exact Nat.le_refl _ | (simp; done) | (simp; omega)) _))⟩
  all_goals
    go_wp2_with fail
    rw [rounds_succ]
    go_wp2_with fail
    refine (HC.out _ _ prec2 ?_).mono ?_
    · exact SlV.block 1 rfl (t := 9) (by repeat (first | exact heap_alloc_at (by simp) | refine heap_alloc_lt ?_)) (by decide)
    rintro e w1 ⟨rfl, rfl⟩
    try simp only [h2]
  · go_wp2_with fail
    go_ret
    exact ⟨by rw [HP.out]; rfl, (by repeat (first | exact Bel.refl _ | assumption | refine Bel.alloc ?_ _ | refine Bel.drew ?_ | refine Bel.set ?_ (by first | exact Nat.le_refl _ | (simp; done) | (simp; omega)) _))⟩
  all_goals
    go_wp2_with fail
    rw [rounds_succ]
    go_wp2_with fail
    refine (HC.out _ _ prec3 ?_).mono ?_
    · exact SlV.block 3 rfl (t := 9) (by repeat (first | exact heap_alloc_at (by simp) | refine heap_alloc_lt ?_)) (by decide)
    rintro e w1 ⟨rfl, rfl⟩
    try simp only [h3]
  · go_wp2_with fail
    go_ret
    exact ⟨by rw [HP.out]; rfl, (by repeat (first | exact Bel.refl _ | assumption | refine Bel.alloc ?_ _ | refine Bel.drew ?_ | refine Bel.set ?_ (by first | exact Nat.le_refl _ | (simp; done) | (simp; omega)) _))⟩
  all_goals
    go_wp2_with fail
    rw [rounds_succ]
    go_wp2_with fail
    refine (HC.out _ _ prec4 ?_).mono ?_
    · exact SlV.block 2 rfl (t := 9) (by repeat (first | exact heap_alloc_at (by simp) | refine heap_alloc_lt ?_)) (by decide)
    rintro e w1 ⟨rfl, rfl⟩
    try simp only [h4]
  · go_wp2_with fail
    go_ret
    exact ⟨by rw [HP.out]; rfl, (by repeat (first | exact Bel.refl _ | assumption | refine Bel.alloc ?_ _ | refine Bel.drew ?_ | refine Bel.set ?_ (by first | exact Nat.le_refl _ | (simp; done) | (simp; omega)) _))⟩
  all_goals
    go_wp2_with fail
    rw [rounds_succ]
    go_wp2_with fail
    refine (HC.out _ _ prec5 ?_).mono ?_
    · exact SlV.block 2 rfl (t := 9) (by repeat (first | exact heap_alloc_at (by simp) | refine heap_alloc_lt ?_)) (by decide)
    rintro e w1 ⟨rfl, rfl⟩
    try simp only [h5]
  · go_wp2_with fail
    go_ret
    exact ⟨by rw [HP.out]; rfl, (by repeat (first | exact Bel.refl _ | assumption | refine Bel.alloc ?_ _ | refine Bel.drew ?_ | refine Bel.set ?_ (by first | exact Nat.le_refl _ | (simp; done) | (simp; omega)) _))⟩
  · go_wp2_with fail
    rw [rounds_succ]
    go_wp2_with fail
    go_ret
    exact ⟨by rw [HP.out]; rfl, (by repeat (first | exact Bel.refl _ | assumption | refine Bel.alloc ?_ _ | refine Bel.drew ?_ | refine Bel.set ?_ (by first | exact Nat.le_refl _ | (simp; done) | (simp; omega)) _))⟩

/-- spec.or: not there, or the function says yes. -/
theorem or_any (f : FuncId) (lb : Array Value) (hft : ∀ args w, (callFunc f args).run Tryz.prog w = .ok (.enter f args) w) (p : Nd → Bool) (n : Nd) (kv : Value) (w : World) (hn : NdK w.heap.size w n kv) (hf : FnAt f lb p w [n]) :
    Calls Tryz.prog 64 #[nodeV n kv, .func (.func f) #[] lb] w fun e w' => e = .returned (.bool (orM p n)) ∧ Bel w w' := by
  have HM := hide (fun W (h : Bel w W) => missing_any n kv W (hn.later h))
  have HF := hide (fun W (h : Bel w W) => hf n (by simp) kv W h (hn.later h))
  clear hn hf
  unfold nodeV at HM HF ⊢
  go_enter Tryz.func64, Tryz.ntmps64
  go_wp2_with fail
  refine (HM.out _ ?_).mono ?_
  · exact (by repeat (first | exact Bel.refl _ | assumption | refine Bel.alloc ?_ _ | refine Bel.drew ?_ | refine Bel.set ?_ (by first | exact Nat.le_refl _ | (simp; done) | (simp; omega)) _))
  rintro e w1 ⟨rfl, hb⟩
  have hc := hb.cell
  simp only [World.size_alloc] at hc
  have hb1 : Bel w w1 := Bel.trans (by repeat (first | exact Bel.refl _ | assumption | refine Bel.alloc ?_ _ | refine Bel.drew ?_ | refine Bel.set ?_ (by first | exact Nat.le_refl _ | (simp; done) | (simp; omega)) _)) hb
  cases hm : miss n
  · go_wp2_with fail
    refine (HF.out _ ?_).mono ?_
    · exact hb1
    rintro e w2 ⟨rfl, hb2⟩
    go_wp2_with fail
    go_ret
    exact ⟨by simp [orM, hm], hb1.trans hb2⟩
  · go_wp2_with fail
    go_ret
    exact ⟨by simp [orM, hm], hb1⟩
end Go.Proofs.YtkkgfgllfbahlaaGreatFmt

namespace Go.Proofs.YtkkgfgllfbahlaaGreatFmt
open Go Go.RowKit

def shE2 : List Nd → Bool
  | [a, b] => shE a && (miss b || shE b)
  | _ => false
theorem shE_eq (k t : ByteArray) (ks : List Nd) : shE (.mk k t ks) =
    if k.toList = [110, 97, 109, 101] ∨ k.toList = [108, 105, 116, 101, 114, 97, 108] then ks.isEmpty
    else if k.toList = [97, 115, 115, 101, 114, 116] then decide (t.toList = []) && shE2 ks
    else decide (k.toList ∈ exprKinds) && ks.all shE && arityOk k.toList t.toList ks.length := by
  match ks with
  | [] => simp [shE, shE2, shEL_all]
  | [a] => simp [shE, shE2, shEL_all]
  | [a, b] => simp [shE, shE2, shEL_all]
  | a :: b :: c :: r => simp [shE, shE2, shEL_all]

theorem ret_bool {v : Value} {x y : Bool} (h : v = .bool x) (e : x = y) : Ending.returned v = .returned (.bool y) := by rw [h, e]

theorem shE_assert_ne {t : ByteArray} {ks : List Nd} (h : ks.length ≠ 2) : shE (.mk ⟨#[97, 115, 115, 101, 114, 116]⟩ t ks) = false := by
  match ks with
  | [] => simp [shE]
  | [a] => simp [shE]
  | [a, b] => simp at h
  | a :: b :: c :: r => simp [shE]

theorem len_ne {n : Nat} {m : Int} (h : ¬ (n : Int) = m) : ((n : Int) == m) = false := by simpa using h

set_option maxRecDepth 100000 in
set_option maxHeartbeats 1000000 in
theorem shE_assert (t : ByteArray) (ks : List Nd) (kv : Value) (w : World) (hn : NdK w.heap.size w (.mk ⟨#[97, 115, 115, 101, 114, 116]⟩ t ks) kv)
    (ih : ∀ k, k ∈ ks → ∀ kv w, NdK w.heap.size w k kv → Tells 36 #[nodeV k kv] w (shE k)) :
    Tells 36 #[nodeV (.mk ⟨#[97, 115, 115, 101, 114, 116]⟩ t ks) kv] w (shE (.mk ⟨#[97, 115, 115, 101, 114, 116]⟩ t ks)) := by
  by_cases h2 : ks.length = 2
  · match ks, h2 with
    | [a, b], _ =>
      simp only [NdK, RowK] at hn
      rcases hn with ⟨_, hn⟩ | ⟨bl, o, cap, rfl, hcap, hm, va, hb, a0, a1, a2, hna, vb, _, b0, b1, b2, hnb, _⟩
      · simp at hn
      have HA := hide (fun W (h : Bel w W) => ih a (by simp) va W (hna.later h))
      have HM := hide (fun W (h : Bel w W) => missing_any b vb W (hnb.later h))
      have HB := hide (fun W (h : Bel w W) => ih b (by simp) vb W (hnb.later h))
      clear ih hna hnb
      unfold maxLen at hm
      unfold nodeV at HA HM HB ⊢
      unfold Tells at HA HB ⊢
      simp only [List.length_cons, List.length_nil] at hcap ⊢
      have hb' : bl < w.heap.size + 1 := by omega
      by_cases ht : t.toList = []
      · go_enter Tryz.func36, Tryz.ntmps36
        go_wp2_with fail
        refine (HA.out _ ?_).mono ?_
        · exact (by repeat (first | exact Bel.refl _ | assumption | refine Bel.alloc ?_ _ | refine Bel.drew ?_ | refine Bel.set ?_ (by first | exact Nat.le_refl _ | (simp; done) | (simp; omega)) _))
        rintro e w1 ⟨rfl, hT⟩
        have hw : Bel w w1 := Bel.trans (by repeat (first | exact Bel.refl _ | assumption | refine Bel.alloc ?_ _ | refine Bel.drew ?_ | refine Bel.set ?_ (by first | exact Nat.le_refl _ | (simp; done) | (simp; omega)) _)) hT
        have hc := hT.cell
        simp only [World.size_alloc] at hc
        cases ha : shE a
        · go_wp2_with fail
          go_ret
          exact ⟨by simp [shE, ha], hw⟩
        · go_wp2_with fail
          refine (HM.out _ ?_).mono ?_
          · exact hw
          rintro e w2 ⟨rfl, hT2⟩
          have hT := Bel.trans hT hT2
          have hw := Bel.trans hw hT2
          clear hc hT2
          have hc := hT.cell
          simp only [World.size_alloc] at hc
          cases hmb : miss b
          · go_wp2_with fail
            refine (HB.out _ ?_).mono ?_
            · exact hw
            rintro e w3 ⟨rfl, hT3⟩
            have hw := Bel.trans hw hT3
            clear hc hT3
            go_wp2_with fail
            go_ret
            exact ⟨by simp [shE, ha, hmb, ht], hw⟩
          · go_wp2_with fail
            go_ret
            exact ⟨by simp [shE, ha, hmb, ht], hw⟩
      · go_enter Tryz.func36, Tryz.ntmps36
        go_wp2_with fail
        go_ret
        exact ⟨by simp [shE, ht], (by repeat (first | exact Bel.refl _ | assumption | refine Bel.alloc ?_ _ | refine Bel.drew ?_ | refine Bel.set ?_ (by first | exact Nat.le_refl _ | (simp; done) | (simp; omega)) _))⟩
  · obtain ⟨a, cap, rfl, hcap, hm⟩ := hn.slice
    have hq : ((ks.length : Int) == 2) = false := len_ne (by omega)
    have hs := hide (shE_assert_ne (t := t) h2)
    unfold nodeV Tells
    simp only [Nd.kids_mk, Nd.kind_mk, Nd.text_mk] at hcap ⊢
    clear hn ih h2
    by_cases ht : t.toList = []
    all_goals
      go_enter Tryz.func36, Tryz.ntmps36
      go_wp2_with fail
      go_ret
      exact ⟨by rw [hs.out]; rfl, (by repeat (first | exact Bel.refl _ | assumption | refine Bel.alloc ?_ _ | refine Bel.drew ?_ | refine Bel.set ?_ (by first | exact Nat.le_refl _ | (simp; done) | (simp; omega)) _))⟩

set_option maxRecDepth 100000 in
set_option maxHeartbeats 1000000 in
theorem shE_leaf (k t : ByteArray) (hk : k = ⟨#[110, 97, 109, 101]⟩ ∨ k = ⟨#[108, 105, 116, 101, 114, 97, 108]⟩) (ks : List Nd) (kv : Value) (w : World) (hn : NdK w.heap.size w (.mk k t ks) kv) :
    Tells 36 #[nodeV (.mk k t ks) kv] w (shE (.mk k t ks)) := by
  obtain ⟨a, cap, rfl, hcap, hm⟩ := hn.slice
  unfold nodeV Tells
  simp only [Nd.kids_mk, Nd.kind_mk, Nd.text_mk] at hcap ⊢
  clear hn
  have hl : ((ks.length : Int) == 0) = ks.isEmpty := by cases ks <;> simp; omega
  have HL := hide hl; clear hl
  rcases hk with rfl | rfl
  all_goals
    go_enter Tryz.func36, Tryz.ntmps36
    go_wp2_with fail
    all_goals
      go_ret
      exact ⟨by rw [shE_eq]; simp; exact HL.out, (by repeat (first | exact Bel.refl _ | assumption | refine Bel.alloc ?_ _ | refine Bel.drew ?_ | refine Bel.set ?_ (by first | exact Nat.le_refl _ | (simp; done) | (simp; omega)) _))⟩

set_option maxRecDepth 100000 in
set_option maxHeartbeats 1000000 in
theorem shE_none (k t : ByteArray) (hk : k.toList ∉ exprKinds) (ks : List Nd) (kv : Value) (w : World) (hn : NdK w.heap.size w (.mk k t ks) kv) :
    Tells 36 #[nodeV (.mk k t ks) kv] w (shE (.mk k t ks)) := by
  obtain ⟨a, cap, rfl, hcap, hm⟩ := hn.slice
  have HE := hide (fun W => isExpr_any W (.mk k t ks) (.slice a (Nd.kids (.mk k t ks)).length cap))
  have hs : shE (.mk k t ks) = false := by
    simp only [exprKinds, List.mem_cons, List.not_mem_nil, or_false, not_or] at hk
    simp [shE_eq, exprKinds, hk]
  have HS := hide hs; clear hs
  have hd : decide (Nd.kd (.mk k t ks) ∈ exprKinds) = false := decide_eq_false hk
  rw [hd] at HE
  unfold nodeV at HE ⊢
  unfold Tells
  simp only [Nd.kids_mk, Nd.kind_mk, Nd.text_mk] at hcap HE ⊢
  simp only [exprKinds, List.mem_cons, List.not_mem_nil, or_false, not_or] at hk
  have m1 : (k.toList == [110, 97, 109, 101]) = false := by simp [hk.1]
  have m2 : (k.toList == [108, 105, 116, 101, 114, 97, 108]) = false := by simp [hk.2.1]
  have m3 : (k.toList == [97, 115, 115, 101, 114, 116]) = false := by simp [hk.2.2.2.2.2.2.2.2]
  clear hk
  clear hn hd
  go_enter Tryz.func36, Tryz.ntmps36
  go_wp2_with fail
  all_goals
    refine (HE.out _).mono ?_
    rintro e w1 ⟨rfl, hT⟩
    have hw : Bel w w1 := Bel.trans (by repeat (first | exact Bel.refl _ | assumption | refine Bel.alloc ?_ _ | refine Bel.drew ?_ | refine Bel.set ?_ (by first | exact Nat.le_refl _ | (simp; done) | (simp; omega)) _)) hT
    go_wp2_with fail
    go_ret
    exact ⟨by rw [HS.out]; rfl, hw⟩

set_option maxRecDepth 100000 in
set_option maxHeartbeats 2000000 in
theorem shE_five (k t : ByteArray) (hk : k = ⟨#[112, 97, 114, 101, 110]⟩ ∨ k = ⟨#[117, 110, 97, 114, 121]⟩ ∨ k = ⟨#[115, 101, 108, 101, 99, 116]⟩ ∨ k = ⟨#[105, 110, 100, 101, 120]⟩ ∨ k = ⟨#[99, 97, 108, 108]⟩) (ks : List Nd) (kv : Value) (w : World) (hn : NdK w.heap.size w (.mk k t ks) kv)
    (ih : ∀ k, k ∈ ks → ∀ kv w, NdK w.heap.size w k kv → Tells 36 #[nodeV k kv] w (shE k)) :
    Tells 36 #[nodeV (.mk k t ks) kv] w (shE (.mk k t ks)) := by
  obtain ⟨a, cap, hv, hcap, hm⟩ := hn.slice
  have HE := hide (fun W => isExpr_any W (.mk k t ks) kv)
  have HV := hide (fun W (h : Bel w W) => every_any 36 #[] (fun _ _ => by kernel_rfl) shE W ks kv (hn.sl.later h) (FnAt.of (fun k hk kv w hh => ih k hk kv w hh)))
  clear hn ih
  subst hv
  unfold nodeV at HE ⊢
  unfold Tells
  simp only [Nd.kids_mk, Nd.kind_mk, Nd.text_mk] at hcap HE HV ⊢
  rcases hk with rfl | rfl | rfl | rfl | rfl
  all_goals
    go_enter Tryz.func36, Tryz.ntmps36
    go_wp2_with fail
    refine (HE.out _).mono ?_
    simp only [exprKinds, Nd.kd_mk, ByteArray.toList_mk, List.mem_cons, List.cons.injEq, true_or, or_true, decide_true, reduceCtorEq, and_true, true_and]
    rintro e w1 ⟨rfl, hT⟩
    have hw : Bel w w1 := Bel.trans (by repeat (first | exact Bel.refl _ | assumption | refine Bel.alloc ?_ _ | refine Bel.drew ?_ | refine Bel.set ?_ (by first | exact Nat.le_refl _ | (simp; done) | (simp; omega)) _)) hT
    have hc := hT.cell
    simp only [World.size_alloc] at hc
    go_wp2_with fail
    refine (HV.out _ ?_).mono ?_
    · exact hw
    rintro e w2 ⟨rfl, hT2⟩
    have hT := hT.trans hT2
    have hw := hw.trans hT2
    clear hc hT2
    have hc := hT.cell
    simp only [World.size_alloc] at hc
    cases hall : ks.all shE
    · have hh := hide hall
      clear hall
      go_wp2_with fail
      go_ret
      exact ⟨by rw [shE_eq]; simp only [hh.out]; simp, hw⟩
    · have hh := hide hall
      clear hall
      go_wp2_with fail
      all_goals
        go_ret
        refine ⟨ret_bool rfl ?_, hw⟩
        clear hc hw hT HE HV
        rw [shE_eq, Bool.eq_iff_iff]
        simp only [hh.out]
        simp [arityOk, exprKinds, *]
        try omega

set_option maxRecDepth 100000 in
set_option maxHeartbeats 2000000 in
theorem shE_bin (k t : ByteArray) (hk : k = ⟨#[98, 105, 110, 97, 114, 121]⟩) (ks : List Nd) (kv : Value) (w : World) (hn : NdK w.heap.size w (.mk k t ks) kv)
    (ih : ∀ k, k ∈ ks → ∀ kv w, NdK w.heap.size w k kv → Tells 36 #[nodeV k kv] w (shE k)) :
    Tells 36 #[nodeV (.mk k t ks) kv] w (shE (.mk k t ks)) := by
  obtain ⟨a, cap, hv, hcap, hm⟩ := hn.slice
  have HE := hide (fun W => isExpr_any W (.mk k t ks) kv)
  have HV := hide (fun W (h : Bel w W) => every_any 36 #[] (fun _ _ => by kernel_rfl) shE W ks kv (hn.sl.later h) (FnAt.of (fun k hk kv w hh => ih k hk kv w hh)))
  have HP := hide (fun W => prec_any W t)
  clear hn ih
  subst hv
  unfold nodeV at HE ⊢
  unfold Tells
  simp only [Nd.kids_mk, Nd.kind_mk, Nd.text_mk] at hcap HE HV ⊢
  rcases hk with rfl
  all_goals
    go_enter Tryz.func36, Tryz.ntmps36
    go_wp2_with fail
    refine (HE.out _).mono ?_
    simp only [exprKinds, Nd.kd_mk, ByteArray.toList_mk, List.mem_cons, List.cons.injEq, true_or, or_true, decide_true, reduceCtorEq, and_true, true_and]
    rintro e w1 ⟨rfl, hT⟩
    have hw : Bel w w1 := Bel.trans (by repeat (first | exact Bel.refl _ | assumption | refine Bel.alloc ?_ _ | refine Bel.drew ?_ | refine Bel.set ?_ (by first | exact Nat.le_refl _ | (simp; done) | (simp; omega)) _)) hT
    have hc := hT.cell
    simp only [World.size_alloc] at hc
    go_wp2_with fail
    refine (HV.out _ ?_).mono ?_
    · exact hw
    rintro e w2 ⟨rfl, hT2⟩
    have hT := hT.trans hT2
    have hw := hw.trans hT2
    clear hc hT2
    have hc := hT.cell
    simp only [World.size_alloc] at hc
    cases hall : ks.all shE
    · have hh := hide hall
      clear hall
      go_wp2_with fail
      go_ret
      exact ⟨by rw [shE_eq]; simp only [hh.out]; simp, hw⟩
    · have hh := hide hall
      clear hall
      go_wp2_with fail
      refine (HP.out _).mono ?_
      rintro e w3 ⟨rfl, hT3⟩
      have hw := hw.trans hT3
      go_wp2_with fail
      all_goals
        go_ret
        refine ⟨ret_bool rfl ?_, hw⟩
        clear hc hw hT HE HV
        rw [shE_eq, Bool.eq_iff_iff]
        simp only [hh.out]
        simp [arityOk, exprKinds, *]
        try omega

theorem shE_any : ∀ (m : Nat) (n : Nd), n.nodes ≤ m → ∀ (kv : Value) (w : World), NdK w.heap.size w n kv → Tells 36 #[nodeV n kv] w (shE n) := by
  intro m
  induction m with
  | zero => intro n hm; have := n.nodes_pos; omega
  | succ m ih =>
    intro n hm kv w hn
    have ih' : ∀ k, k ∈ n.kids → ∀ kv w, NdK w.heap.size w k kv → Tells 36 #[nodeV k kv] w (shE k) := fun k hk => ih k (by have := nodesL_mem hk; have := n.nodes_kids; omega)
    obtain ⟨k, t, ks⟩ := n
    simp only [Nd.kids_mk] at ih'
    by_cases hk : k.toList ∈ exprKinds
    · simp only [exprKinds, List.mem_cons, List.not_mem_nil, or_false] at hk
      rcases hk with h | h | h | h | h | h | h | h | h
      · exact shE_leaf k t (.inl (ba_eq h)) ks kv w hn
      · exact shE_leaf k t (.inr (ba_eq h)) ks kv w hn
      · exact shE_five k t (.inl (ba_eq h)) ks kv w hn ih'
      · exact shE_five k t (.inr (.inl (ba_eq h))) ks kv w hn ih'
      · exact shE_bin k t (ba_eq h) ks kv w hn ih'
      · exact shE_five k t (.inr (.inr (.inl (ba_eq h)))) ks kv w hn ih'
      · exact shE_five k t (.inr (.inr (.inr (.inl (ba_eq h))))) ks kv w hn ih'
      · exact shE_five k t (.inr (.inr (.inr (.inr (ba_eq h))))) ks kv w hn ih'
      · obtain rfl := ba_eq h
        exact shE_assert t ks kv w hn ih'
    · exact shE_none k t hk ks kv w hn

theorem shE_tells (n : Nd) (kv : Value) (w : World) (hn : NdK w.heap.size w n kv) : Tells 36 #[nodeV n kv] w (shE n) := shE_any _ n (Nat.le_refl _) kv w hn
theorem everyE_tells (ks : List Nd) (v : Value) (w : World) (hv : SlK w.heap.size w ks v) : Tells 37 #[v, .func (.func 36) #[] #[]] w (ks.all shE) :=
  every_any _ #[] (fun _ _ => by kernel_rfl) shE w ks v hv (FnAt.of fun k _ kv w hh => shE_tells k kv w hh)
end Go.Proofs.YtkkgfgllfbahlaaGreatFmt
