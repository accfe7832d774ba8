/- spec.shapedRange, shapedHead, shapedStmt tell shS.
spec.shapedStmt tells shS.
spec.count takes a tree's nodes off a number, as cnt does; few, Shaped, zzFits1.
few, Shaped, zzFits1. -/
import Derived.Test.YtkkgfgllfbahlaaGreatFmtShS
import Derived.Test.YtkkgfgllfbahlaaGreatFmtTree
import Derived.Test.YtkkgfgllfbahlaaGreatFmtBut
import Derived.BigQuiet
import Derived.Deep.QuietTactic
set_option linter.unusedVariables false
set_option linter.unusedSimpArgs false
namespace Go.Proofs.YtkkgfgllfbahlaaGreatFmt
open Go Go.RowKit

theorem rngB_ne {t : List UInt8} {ks : List Nd} (h : ks.length ≠ 4) : rngB t ks = false := by
  match ks with
  | [] => rfl
  | [a] => rfl
  | [a, b] => rfl
  | [a, b, c] => rfl
  | [a, b, c, d] => simp at h
  | a :: b :: c :: d :: e :: r => rfl

set_option maxRecDepth 100000 in
set_option maxHeartbeats 4000000 in
theorem shRange_tells (k t : ByteArray) (ks : List Nd) (kv : Value) (w : World) (hn : NdK w.heap.size w (.mk k t ks) kv) (ih : ∀ c, c ∈ ks → ∀ d, d ∈ c.kids → StTells d) :
    Tells 40 #[nodeV (.mk k t ks) kv] w (rngB t.toList ks) := by
  by_cases h4 : ks.length = 4
  · match ks, h4 with
    | [a, b, c, d], _ =>
      simp only [NdK, RowK] at hn
      rcases hn with ⟨_, hn⟩ | ⟨bl, o, cap, rfl, hcap, hm, va, hb, a0, a1, a2, hna, vb, _, b0, b1, b2, hnb, vc, _, c0, c1, c2, hnc, vd, _, d0, d1, d2, hnd, _⟩
      · simp at hn
      have HC := hide (fun W (h : Bel w W) => shE_tells c vc W (hnc.later h))
      have HD := hide (fun W (h : Bel w W) => shBlock_tells d vd W (hnd.later h) (ih d (by simp)))
      have HMA := hide (fun W (h : Bel w W) => missing_any a va W (hna.later h))
      have HMB := hide (fun W (h : Bel w W) => missing_any b vb W (hnb.later h))
      have HA := hide (fun W (h : Bel w W) => shE_tells a va W (hna.later h))
      have HB := hide (fun W (h : Bel w W) => or_any 36 #[] (fun _ _ => by kernel_rfl) shE b vb W (hnb.later h) (FnAt.of fun k _ kv w hh => shE_tells k kv w hh))
      clear ih hna hnb hnc hnd
      unfold maxLen at hm
      unfold nodeV Tells at *
      simp only [List.length_cons, List.length_nil, Nd.kind_mk, Nd.text_mk] at hcap ⊢
      have hb' : bl < w.heap.size + 1 := by omega
      have HT : t.toList = [] ∨ (¬ t.toList = [] ∧ t.toList = [61]) ∨ (¬ t.toList = [] ∧ ¬ t.toList = [61] ∧ t.toList = [58, 61]) ∨ (¬ t.toList = [] ∧ ¬ t.toList = [61] ∧ ¬ t.toList = [58, 61]) := by
        by_cases e1 : t.toList = []
        · exact .inl e1
        by_cases e2 : t.toList = [61]
        · exact .inr (.inl ⟨e1, e2⟩)
        by_cases e3 : t.toList = [58, 61]
        · exact .inr (.inr (.inl ⟨e1, e2, e3⟩))
        exact .inr (.inr (.inr ⟨e1, e2, e3⟩))
      rcases HT with ht | ⟨hte, ht⟩ | ⟨hte, ht1, ht⟩ | ⟨hte, ht1, ht2⟩
      · go_enter Tryz.func40, Tryz.ntmps40
        go_wp2_with fail
        refine (HC.out _ ?_).mono ?_
        · exact (by repeat (first | exact Bel.refl _ | assumption | refine Bel.alloc ?_ _ | refine Bel.drew ?_ | refine Bel.set ?_ (by first | exact Nat.le_refl _ | (simp; done) | (simp; omega)) _))
        rintro e w1 ⟨rfl, hT⟩
        have hw : Bel w w1 := Bel.trans (by repeat (first | exact Bel.refl _ | assumption | refine Bel.alloc ?_ _ | refine Bel.drew ?_ | refine Bel.set ?_ (by first | exact Nat.le_refl _ | (simp; done) | (simp; omega)) _)) hT
        have hc := hT.cellN (N := w.heap.size + 1) (by simp)
        cases hb0 : shE c
        · go_wp2_with fail
          go_ret
          exact ⟨ret_bool rfl (by simp [rngB, ht, hb0]), hw⟩
        · skip
          go_wp2_with fail
          refine (HD.out _ ?_).mono ?_
          · exact hw
          rintro e w2 ⟨rfl, hT2⟩
          have hT := Bel.trans hT hT2
          have hw := Bel.trans hw hT2
          clear hc hT2
          have hc := hT.cellN (N := w.heap.size + 1) (by simp)
          cases hb1 : shBlock d
          · go_wp2_with fail
            go_ret
            exact ⟨ret_bool rfl (by simp [rngB, ht, hb0, hb1]), hw⟩
          · skip
            go_wp2_with fail
            refine (HMA.out _ ?_).mono ?_
            · exact hw
            rintro e w3 ⟨rfl, hT2⟩
            have hT := Bel.trans hT hT2
            have hw := Bel.trans hw hT2
            clear hc hT2
            have hc := hT.cellN (N := w.heap.size + 1) (by simp)
            cases hb2 : miss a
            · go_wp2_with fail
              go_ret
              exact ⟨ret_bool rfl (by simp [rngB, ht, hb0, hb1, hb2]), hw⟩
            · skip
              go_wp2_with fail
              refine (HMB.out _ ?_).mono ?_
              · exact hw
              rintro e w4 ⟨rfl, hT2⟩
              have hT := Bel.trans hT hT2
              have hw := Bel.trans hw hT2
              clear hc hT2
              have hc := hT.cellN (N := w.heap.size + 1) (by simp)
              go_wp2_with fail
              go_ret
              exact ⟨ret_bool rfl (by simp [rngB, ht, hb0, hb1, hb2]), hw⟩
      · clear hte
        go_enter Tryz.func40, Tryz.ntmps40
        go_wp2_with fail
        refine (HC.out _ ?_).mono ?_
        · exact (by repeat (first | exact Bel.refl _ | assumption | refine Bel.alloc ?_ _ | refine Bel.drew ?_ | refine Bel.set ?_ (by first | exact Nat.le_refl _ | (simp; done) | (simp; omega)) _))
        rintro e w1 ⟨rfl, hT⟩
        have hw : Bel w w1 := Bel.trans (by repeat (first | exact Bel.refl _ | assumption | refine Bel.alloc ?_ _ | refine Bel.drew ?_ | refine Bel.set ?_ (by first | exact Nat.le_refl _ | (simp; done) | (simp; omega)) _)) hT
        have hc := hT.cellN (N := w.heap.size + 1) (by simp)
        cases hb0 : shE c
        · go_wp2_with fail
          go_ret
          exact ⟨ret_bool rfl (by simp [rngB, ht, hb0]), hw⟩
        · skip
          go_wp2_with fail
          refine (HD.out _ ?_).mono ?_
          · exact hw
          rintro e w2 ⟨rfl, hT2⟩
          have hT := Bel.trans hT hT2
          have hw := Bel.trans hw hT2
          clear hc hT2
          have hc := hT.cellN (N := w.heap.size + 1) (by simp)
          cases hb1 : shBlock d
          · go_wp2_with fail
            go_ret
            exact ⟨ret_bool rfl (by simp [rngB, ht, hb0, hb1]), hw⟩
          · skip
            go_wp2_with fail
            refine (HA.out _ ?_).mono ?_
            · exact hw
            rintro e w3 ⟨rfl, hT2⟩
            have hT := Bel.trans hT hT2
            have hw := Bel.trans hw hT2
            clear hc hT2
            have hc := hT.cellN (N := w.heap.size + 1) (by simp)
            cases hb2 : shE a
            · go_wp2_with fail
              go_ret
              exact ⟨ret_bool rfl (by simp [rngB, ht, hb0, hb1, hb2]), hw⟩
            · skip
              go_wp2_with fail
              refine (HB.out _ ?_).mono ?_
              · exact hw
              rintro e w4 ⟨rfl, hT2⟩
              have hT := Bel.trans hT hT2
              have hw := Bel.trans hw hT2
              clear hc hT2
              have hc := hT.cellN (N := w.heap.size + 1) (by simp)
              go_wp2_with fail
              go_ret
              exact ⟨ret_bool rfl (by simp [rngB, ht, hb0, hb1, hb2]), hw⟩
      · clear hte ht1
        go_enter Tryz.func40, Tryz.ntmps40
        go_wp2_with fail
        refine (HC.out _ ?_).mono ?_
        · exact (by repeat (first | exact Bel.refl _ | assumption | refine Bel.alloc ?_ _ | refine Bel.drew ?_ | refine Bel.set ?_ (by first | exact Nat.le_refl _ | (simp; done) | (simp; omega)) _))
        rintro e w1 ⟨rfl, hT⟩
        have hw : Bel w w1 := Bel.trans (by repeat (first | exact Bel.refl _ | assumption | refine Bel.alloc ?_ _ | refine Bel.drew ?_ | refine Bel.set ?_ (by first | exact Nat.le_refl _ | (simp; done) | (simp; omega)) _)) hT
        have hc := hT.cellN (N := w.heap.size + 1) (by simp)
        cases hb0 : shE c
        · go_wp2_with fail
          go_ret
          exact ⟨ret_bool rfl (by simp [rngB, ht, hb0]), hw⟩
        · skip
          go_wp2_with fail
          refine (HD.out _ ?_).mono ?_
          · exact hw
          rintro e w2 ⟨rfl, hT2⟩
          have hT := Bel.trans hT hT2
          have hw := Bel.trans hw hT2
          clear hc hT2
          have hc := hT.cellN (N := w.heap.size + 1) (by simp)
          cases hb1 : shBlock d
          · go_wp2_with fail
            go_ret
            exact ⟨ret_bool rfl (by simp [rngB, ht, hb0, hb1]), hw⟩
          · skip
            go_wp2_with fail
            refine (HA.out _ ?_).mono ?_
            · exact hw
            rintro e w3 ⟨rfl, hT2⟩
            have hT := Bel.trans hT hT2
            have hw := Bel.trans hw hT2
            clear hc hT2
            have hc := hT.cellN (N := w.heap.size + 1) (by simp)
            cases hb2 : shE a
            · go_wp2_with fail
              go_ret
              exact ⟨ret_bool rfl (by simp [rngB, ht, hb0, hb1, hb2]), hw⟩
            · skip
              go_wp2_with fail
              refine (HB.out _ ?_).mono ?_
              · exact hw
              rintro e w4 ⟨rfl, hT2⟩
              have hT := Bel.trans hT hT2
              have hw := Bel.trans hw hT2
              clear hc hT2
              have hc := hT.cellN (N := w.heap.size + 1) (by simp)
              go_wp2_with fail
              go_ret
              exact ⟨ret_bool rfl (by simp [rngB, ht, hb0, hb1, hb2]), hw⟩
      · have m1 := beq_ne hte
        have m2 := beq_ne ht1
        have m3 := beq_ne ht2
        have H1 := hide hte
        have H2 := hide ht1
        have H3 := hide ht2
        clear hte ht1 ht2
        go_enter Tryz.func40, Tryz.ntmps40
        go_wp2_with fail
        refine (HC.out _ ?_).mono ?_
        · exact (by repeat (first | exact Bel.refl _ | assumption | refine Bel.alloc ?_ _ | refine Bel.drew ?_ | refine Bel.set ?_ (by first | exact Nat.le_refl _ | (simp; done) | (simp; omega)) _))
        rintro e w1 ⟨rfl, hT⟩
        have hw : Bel w w1 := Bel.trans (by repeat (first | exact Bel.refl _ | assumption | refine Bel.alloc ?_ _ | refine Bel.drew ?_ | refine Bel.set ?_ (by first | exact Nat.le_refl _ | (simp; done) | (simp; omega)) _)) hT
        have hc := hT.cellN (N := w.heap.size + 1) (by simp)
        cases hx : shE c
        · go_wp2_with fail
          go_ret
          exact ⟨ret_bool rfl (by simp [rngB, hx]), hw⟩
        · go_wp2_with fail
          refine (HD.out _ ?_).mono ?_
          · exact hw
          rintro e w2 ⟨rfl, hT2⟩
          have hT := Bel.trans hT hT2
          have hw := Bel.trans hw hT2
          clear hc hT2
          have hc := hT.cellN (N := w.heap.size + 1) (by simp)
          cases hy : shBlock d
          · go_wp2_with fail
            go_ret
            exact ⟨ret_bool rfl (by simp [rngB, hy]), hw⟩
          · go_wp2_with fail
            go_ret
            exact ⟨ret_bool rfl (by simp [rngB, H1.out, H2.out, H3.out]), hw⟩
  · obtain ⟨a, cap, rfl, hcap, hm⟩ := hn.slice
    have hq : ((ks.length : Int) != 4) = true := by simp; omega
    have HS := hide (rngB_ne (t := t.toList) h4)
    unfold nodeV Tells
    simp only [Nd.kids_mk, Nd.kind_mk, Nd.text_mk] at hcap ⊢
    clear hn ih h4
    go_enter Tryz.func40, Tryz.ntmps40
    go_wp2_with fail
    go_ret
    exact ⟨ret_bool rfl HS.out.symm, (by repeat (first | exact Bel.refl _ | assumption | refine Bel.alloc ?_ _ | refine Bel.drew ?_ | refine Bel.set ?_ (by first | exact Nat.le_refl _ | (simp; done) | (simp; omega)) _))⟩

/-- or with a named test that tells. -/
theorem orT (f : FuncId) (p : Nd → Bool) (hft : ∀ args w, (callFunc f args).run Tryz.prog w = .ok (.enter f args) w) (n : Nd) (hp : ∀ kv w, NdK w.heap.size w n kv → Tells f #[nodeV n kv] w (p n)) (kv : Value) (w : World) (hn : NdK w.heap.size w n kv) :
    Tells 64 #[nodeV n kv, .func (.func f) #[] #[]] w (orM p n) :=
  or_any f #[] hft p n kv w hn (FnAt.of fun k hk kv w hh => by
    rcases List.mem_singleton.1 hk with rfl
    exact hp kv w hh)

theorem headB_len {k : List UInt8} {ks : List Nd} (h : (k = [105, 102] ∨ k = [102, 111, 114]) ∧ ks.length ≠ 4 ∨ (k = [115, 119, 105, 116, 99, 104] ∨ k = [116, 121, 112, 101, 115]) ∧ ks.length ≠ 3 ∨ k = [115, 101, 108, 101, 99, 116, 115] ∧ ks.length ≠ 1) : headB k ks = false := by
  rcases h with ⟨rfl | rfl, h⟩ | ⟨rfl | rfl, h⟩ | ⟨rfl, h⟩
  all_goals
    match ks with
    | [] => rfl
    | [a] => first | rfl | (simp at h)
    | [a, b] => rfl
    | [a, b, c] => first | rfl | (simp at h)
    | [a, b, c, d] => first | rfl | (simp at h)
    | a :: b :: c :: d :: e :: r => rfl

set_option maxRecDepth 100000 in
set_option maxHeartbeats 4000000 in
theorem shHead_four (k t : ByteArray) (hk : k = ⟨#[105, 102]⟩ ∨ k = ⟨#[102, 111, 114]⟩) (a b c d : Nd) (kv : Value) (w : World) (hn : NdK w.heap.size w (.mk k t [a, b, c, d]) kv) (ihd : StTells d) (ih : ∀ e, e ∈ [a, b, c, d] → ∀ d, d ∈ e.kids → StTells d) :
    Tells 42 #[nodeV (.mk k t [a, b, c, d]) kv] w (headB k.toList [a, b, c, d]) := by
  simp only [NdK, RowK] at hn
  rcases hn with ⟨_, hn⟩ | ⟨bl, o, cap, rfl, hcap, hm, va, hb, a0, a1, a2, hna, vb, _, b0, b1, b2, hnb, vc, _, c0, c1, c2, hnc, vd, _, d0, d1, d2, hnd, _⟩
  · simp at hn
  have HA := hide (fun W (h : Bel w W) => orT 41 shSimple (fun _ _ => by kernel_rfl) a (shSimple_tells a) va W (hna.later h))
  have HB := hide (fun W (h : Bel w W) => shE_tells b vb W (hnb.later h))
  have HBo := hide (fun W (h : Bel w W) => orT 36 shE (fun _ _ => by kernel_rfl) b (shE_tells b) vb W (hnb.later h))
  have HC := hide (fun W (h : Bel w W) => shBlock_tells c vc W (hnc.later h) (ih c (by simp)))
  have HCo := hide (fun W (h : Bel w W) => orT 41 shSimple (fun _ _ => by kernel_rfl) c (shSimple_tells c) vc W (hnc.later h))
  have HD := hide (fun W (h : Bel w W) => shBlock_tells d vd W (hnd.later h) (ih d (by simp)))
  have HDo := hide (fun W (h : Bel w W) => orT 24 shS (fun _ _ => by kernel_rfl) d ihd vd W (hnd.later h))
  clear ih ihd hna hnb hnc hnd
  unfold maxLen at hm
  unfold nodeV Tells at *
  simp only [List.length_cons, List.length_nil, Nd.kind_mk, Nd.text_mk] at hcap ⊢
  have hb' : bl < w.heap.size + 1 := by omega
  rcases hk with rfl | rfl
  · go_enter Tryz.func42, Tryz.ntmps42
    go_wp2_with fail
    refine (HA.out _ ?_).mono ?_
    · exact (by repeat (first | exact Bel.refl _ | assumption | refine Bel.alloc ?_ _ | refine Bel.drew ?_ | refine Bel.set ?_ (by first | exact Nat.le_refl _ | (simp; done) | (simp; omega)) _))
    rintro e w1 ⟨rfl, hT⟩
    have hw : Bel w w1 := Bel.trans (by repeat (first | exact Bel.refl _ | assumption | refine Bel.alloc ?_ _ | refine Bel.drew ?_ | refine Bel.set ?_ (by first | exact Nat.le_refl _ | (simp; done) | (simp; omega)) _)) hT
    have hc := hT.cellN (N := w.heap.size + 1) (by simp)
    cases hb0 : orM shSimple a
    · go_wp2_with fail
      go_ret
      exact ⟨ret_bool rfl (by simp [headB, ifB, hb0]), hw⟩
    · skip
      go_wp2_with fail
      refine (HB.out _ ?_).mono ?_
      · exact hw
      rintro e w2 ⟨rfl, hT2⟩
      have hT := Bel.trans hT hT2
      have hw := Bel.trans hw hT2
      clear hc hT2
      have hc := hT.cellN (N := w.heap.size + 1) (by simp)
      cases hb1 : shE b
      · go_wp2_with fail
        go_ret
        exact ⟨ret_bool rfl (by simp [headB, ifB, hb0, hb1]), hw⟩
      · skip
        go_wp2_with fail
        refine (HC.out _ ?_).mono ?_
        · exact hw
        rintro e w3 ⟨rfl, hT2⟩
        have hT := Bel.trans hT hT2
        have hw := Bel.trans hw hT2
        clear hc hT2
        have hc := hT.cellN (N := w.heap.size + 1) (by simp)
        cases hb2 : shBlock c
        · go_wp2_with fail
          go_ret
          exact ⟨ret_bool rfl (by simp [headB, ifB, hb0, hb1, hb2]), hw⟩
        · skip
          go_wp2_with fail
          refine (HDo.out _ ?_).mono ?_
          · exact hw
          rintro e w4 ⟨rfl, hT2⟩
          have hT := Bel.trans hT hT2
          have hw := Bel.trans hw hT2
          clear hc hT2
          have hc := hT.cellN (N := w.heap.size + 1) (by simp)
          go_wp2_with fail
          go_ret
          exact ⟨ret_bool rfl (by simp [headB, ifB, hb0, hb1, hb2]), hw⟩
  · go_enter Tryz.func42, Tryz.ntmps42
    go_wp2_with fail
    refine (HA.out _ ?_).mono ?_
    · exact (by repeat (first | exact Bel.refl _ | assumption | refine Bel.alloc ?_ _ | refine Bel.drew ?_ | refine Bel.set ?_ (by first | exact Nat.le_refl _ | (simp; done) | (simp; omega)) _))
    rintro e w1 ⟨rfl, hT⟩
    have hw : Bel w w1 := Bel.trans (by repeat (first | exact Bel.refl _ | assumption | refine Bel.alloc ?_ _ | refine Bel.drew ?_ | refine Bel.set ?_ (by first | exact Nat.le_refl _ | (simp; done) | (simp; omega)) _)) hT
    have hc := hT.cellN (N := w.heap.size + 1) (by simp)
    cases hb0 : orM shSimple a
    · go_wp2_with fail
      go_ret
      exact ⟨ret_bool rfl (by simp [headB, forB, hb0]), hw⟩
    · skip
      go_wp2_with fail
      refine (HBo.out _ ?_).mono ?_
      · exact hw
      rintro e w2 ⟨rfl, hT2⟩
      have hT := Bel.trans hT hT2
      have hw := Bel.trans hw hT2
      clear hc hT2
      have hc := hT.cellN (N := w.heap.size + 1) (by simp)
      cases hb1 : orM shE b
      · go_wp2_with fail
        go_ret
        exact ⟨ret_bool rfl (by simp [headB, forB, hb0, hb1]), hw⟩
      · skip
        go_wp2_with fail
        refine (HCo.out _ ?_).mono ?_
        · exact hw
        rintro e w3 ⟨rfl, hT2⟩
        have hT := Bel.trans hT hT2
        have hw := Bel.trans hw hT2
        clear hc hT2
        have hc := hT.cellN (N := w.heap.size + 1) (by simp)
        cases hb2 : orM shSimple c
        · go_wp2_with fail
          go_ret
          exact ⟨ret_bool rfl (by simp [headB, forB, hb0, hb1, hb2]), hw⟩
        · skip
          go_wp2_with fail
          refine (HD.out _ ?_).mono ?_
          · exact hw
          rintro e w4 ⟨rfl, hT2⟩
          have hT := Bel.trans hT hT2
          have hw := Bel.trans hw hT2
          clear hc hT2
          have hc := hT.cellN (N := w.heap.size + 1) (by simp)
          go_wp2_with fail
          go_ret
          exact ⟨ret_bool rfl (by simp [headB, forB, hb0, hb1, hb2]), hw⟩

set_option maxRecDepth 100000 in
set_option maxHeartbeats 4000000 in
theorem shHead_three (k t : ByteArray) (hk : k = ⟨#[115, 119, 105, 116, 99, 104]⟩ ∨ k = ⟨#[116, 121, 112, 101, 115]⟩) (a b c : Nd) (kv : Value) (w : World) (hn : NdK w.heap.size w (.mk k t [a, b, c]) kv) (ih : ∀ e, e ∈ c.kids → ∀ d, d ∈ e.kids → StTells d) :
    Tells 42 #[nodeV (.mk k t [a, b, c]) kv] w (headB k.toList [a, b, c]) := by
  simp only [NdK, RowK] at hn
  rcases hn with ⟨_, hn⟩ | ⟨bl, o, cap, rfl, hcap, hm, va, hb, a0, a1, a2, hna, vb, _, b0, b1, b2, hnb, vc, _, c0, c1, c2, hnc, _⟩
  · simp at hn
  have HA := hide (fun W (h : Bel w W) => orT 41 shSimple (fun _ _ => by kernel_rfl) a (shSimple_tells a) va W (hna.later h))
  have HB := hide (fun W (h : Bel w W) => shSimple_tells b vb W (hnb.later h))
  have HBo := hide (fun W (h : Bel w W) => orT 36 shE (fun _ _ => by kernel_rfl) b (shE_tells b) vb W (hnb.later h))
  have HC := hide (fun W (h : Bel w W) => shCls_tells 66 (fun _ _ => by kernel_rfl) shList shList_tells c vc W (hnc.later h) ih)
  clear ih hna hnb hnc
  unfold maxLen at hm
  unfold nodeV Tells at *
  simp only [List.length_cons, List.length_nil, Nd.kind_mk, Nd.text_mk] at hcap ⊢
  have hb' : bl < w.heap.size + 1 := by omega
  rcases hk with rfl | rfl
  · go_enter Tryz.func42, Tryz.ntmps42
    go_wp2_with fail
    refine (HA.out _ ?_).mono ?_
    · exact (by repeat (first | exact Bel.refl _ | assumption | refine Bel.alloc ?_ _ | refine Bel.drew ?_ | refine Bel.set ?_ (by first | exact Nat.le_refl _ | (simp; done) | (simp; omega)) _))
    rintro e w1 ⟨rfl, hT⟩
    have hw : Bel w w1 := Bel.trans (by repeat (first | exact Bel.refl _ | assumption | refine Bel.alloc ?_ _ | refine Bel.drew ?_ | refine Bel.set ?_ (by first | exact Nat.le_refl _ | (simp; done) | (simp; omega)) _)) hT
    have hc := hT.cellN (N := w.heap.size + 1) (by simp)
    cases hb0 : orM shSimple a
    · go_wp2_with fail
      go_ret
      exact ⟨ret_bool rfl (by simp [headB, swB, hb0]), hw⟩
    · skip
      go_wp2_with fail
      refine (HBo.out _ ?_).mono ?_
      · exact hw
      rintro e w2 ⟨rfl, hT2⟩
      have hT := Bel.trans hT hT2
      have hw := Bel.trans hw hT2
      clear hc hT2
      have hc := hT.cellN (N := w.heap.size + 1) (by simp)
      cases hb1 : orM shE b
      · go_wp2_with fail
        go_ret
        exact ⟨ret_bool rfl (by simp [headB, swB, hb0, hb1]), hw⟩
      · skip
        go_wp2_with fail
        refine (HC.out _ ?_).mono ?_
        · exact hw
        rintro e w3 ⟨rfl, hT2⟩
        have hT := Bel.trans hT hT2
        have hw := Bel.trans hw hT2
        clear hc hT2
        have hc := hT.cellN (N := w.heap.size + 1) (by simp)
        go_wp2_with fail
        go_ret
        exact ⟨ret_bool rfl (by simp [headB, swB, hb0, hb1]), hw⟩
  · go_enter Tryz.func42, Tryz.ntmps42
    go_wp2_with fail
    refine (HA.out _ ?_).mono ?_
    · exact (by repeat (first | exact Bel.refl _ | assumption | refine Bel.alloc ?_ _ | refine Bel.drew ?_ | refine Bel.set ?_ (by first | exact Nat.le_refl _ | (simp; done) | (simp; omega)) _))
    rintro e w1 ⟨rfl, hT⟩
    have hw : Bel w w1 := Bel.trans (by repeat (first | exact Bel.refl _ | assumption | refine Bel.alloc ?_ _ | refine Bel.drew ?_ | refine Bel.set ?_ (by first | exact Nat.le_refl _ | (simp; done) | (simp; omega)) _)) hT
    have hc := hT.cellN (N := w.heap.size + 1) (by simp)
    cases hb0 : orM shSimple a
    · go_wp2_with fail
      go_ret
      exact ⟨ret_bool rfl (by simp [headB, tyB, hb0]), hw⟩
    · skip
      go_wp2_with fail
      refine (HB.out _ ?_).mono ?_
      · exact hw
      rintro e w2 ⟨rfl, hT2⟩
      have hT := Bel.trans hT hT2
      have hw := Bel.trans hw hT2
      clear hc hT2
      have hc := hT.cellN (N := w.heap.size + 1) (by simp)
      cases hb1 : shSimple b
      · go_wp2_with fail
        go_ret
        exact ⟨ret_bool rfl (by simp [headB, tyB, hb0, hb1]), hw⟩
      · skip
        go_wp2_with fail
        refine (HC.out _ ?_).mono ?_
        · exact hw
        rintro e w3 ⟨rfl, hT2⟩
        have hT := Bel.trans hT hT2
        have hw := Bel.trans hw hT2
        clear hc hT2
        have hc := hT.cellN (N := w.heap.size + 1) (by simp)
        go_wp2_with fail
        go_ret
        exact ⟨ret_bool rfl (by simp [headB, tyB, hb0, hb1]), hw⟩

set_option maxRecDepth 100000 in
set_option maxHeartbeats 4000000 in
theorem shHead_one (t : ByteArray) (a : Nd) (kv : Value) (w : World) (hn : NdK w.heap.size w (.mk ⟨#[115, 101, 108, 101, 99, 116, 115]⟩ t [a]) kv) (ih : ∀ e, e ∈ a.kids → ∀ d, d ∈ e.kids → StTells d) :
    Tells 42 #[nodeV (.mk ⟨#[115, 101, 108, 101, 99, 116, 115]⟩ t [a]) kv] w (headB [115, 101, 108, 101, 99, 116, 115] [a]) := by
  simp only [NdK, RowK] at hn
  rcases hn with ⟨_, hn⟩ | ⟨bl, o, cap, rfl, hcap, hm, va, hb, a0, a1, a2, hna, _⟩
  · simp at hn
  have HA := hide (fun W (h : Bel w W) => shCls_tells 41 (fun _ _ => by kernel_rfl) shSimple shSimple_tells a va W (hna.later h) ih)
  clear ih hna
  unfold maxLen at hm
  unfold nodeV Tells at *
  simp only [List.length_cons, List.length_nil, Nd.kind_mk, Nd.text_mk] at hcap ⊢
  go_enter Tryz.func42, Tryz.ntmps42
  go_wp2_with fail
  refine (HA.out _ ?_).mono ?_
  · exact (by repeat (first | exact Bel.refl _ | assumption | refine Bel.alloc ?_ _ | refine Bel.drew ?_ | refine Bel.set ?_ (by first | exact Nat.le_refl _ | (simp; done) | (simp; omega)) _))
  rintro e w1 ⟨rfl, hT⟩
  have hw : Bel w w1 := Bel.trans (by repeat (first | exact Bel.refl _ | assumption | refine Bel.alloc ?_ _ | refine Bel.drew ?_ | refine Bel.set ?_ (by first | exact Nat.le_refl _ | (simp; done) | (simp; omega)) _)) hT
  have hc := hT.cellN (N := w.heap.size + 1) (by simp)
  go_wp2_with fail
  go_ret
  exact ⟨ret_bool rfl (by simp [headB, seB]), hw⟩

set_option maxRecDepth 100000 in
set_option maxHeartbeats 4000000 in
/-- The head's parts are not as many as its kind says. -/
theorem shHead_len (k t : ByteArray) (ks : List Nd) (h : (k = ⟨#[105, 102]⟩ ∨ k = ⟨#[102, 111, 114]⟩) ∧ ks.length ≠ 4 ∨ (k = ⟨#[115, 119, 105, 116, 99, 104]⟩ ∨ k = ⟨#[116, 121, 112, 101, 115]⟩) ∧ ks.length ≠ 3 ∨ k = ⟨#[115, 101, 108, 101, 99, 116, 115]⟩ ∧ ks.length ≠ 1) (kv : Value) (w : World) (hn : NdK w.heap.size w (.mk k t ks) kv) :
    Tells 42 #[nodeV (.mk k t ks) kv] w (headB k.toList ks) := by
  obtain ⟨a, cap, rfl, hcap, hm⟩ := hn.slice
  have HS := hide (show headB k.toList ks = false from headB_len (by
    rcases h with ⟨rfl | rfl, h⟩ | ⟨rfl | rfl, h⟩ | ⟨rfl, h⟩
    · exact .inl ⟨.inl (by simp), h⟩
    · exact .inl ⟨.inr (by simp), h⟩
    · exact .inr (.inl ⟨.inl (by simp), h⟩)
    · exact .inr (.inl ⟨.inr (by simp), h⟩)
    · exact .inr (.inr ⟨by simp, h⟩)))
  unfold nodeV Tells
  simp only [Nd.kids_mk, Nd.kind_mk, Nd.text_mk] at hcap ⊢
  clear hn
  rcases h with ⟨rfl | rfl, h⟩ | ⟨rfl | rfl, h⟩ | ⟨rfl, h⟩
  · have hq : ((ks.length : Int) == 4) = false := len_ne (by omega)
    clear h
    go_enter Tryz.func42, Tryz.ntmps42
    go_wp2_with fail
    go_ret
    exact ⟨ret_bool rfl HS.out.symm, (by repeat (first | exact Bel.refl _ | assumption | refine Bel.alloc ?_ _ | refine Bel.drew ?_ | refine Bel.set ?_ (by first | exact Nat.le_refl _ | (simp; done) | (simp; omega)) _))⟩
  · have hq : ((ks.length : Int) == 4) = false := len_ne (by omega)
    clear h
    go_enter Tryz.func42, Tryz.ntmps42
    go_wp2_with fail
    go_ret
    exact ⟨ret_bool rfl HS.out.symm, (by repeat (first | exact Bel.refl _ | assumption | refine Bel.alloc ?_ _ | refine Bel.drew ?_ | refine Bel.set ?_ (by first | exact Nat.le_refl _ | (simp; done) | (simp; omega)) _))⟩
  · have hq : ((ks.length : Int) == 3) = false := len_ne (by omega)
    clear h
    go_enter Tryz.func42, Tryz.ntmps42
    go_wp2_with fail
    go_ret
    exact ⟨ret_bool rfl HS.out.symm, (by repeat (first | exact Bel.refl _ | assumption | refine Bel.alloc ?_ _ | refine Bel.drew ?_ | refine Bel.set ?_ (by first | exact Nat.le_refl _ | (simp; done) | (simp; omega)) _))⟩
  · have hq : ((ks.length : Int) == 3) = false := len_ne (by omega)
    clear h
    go_enter Tryz.func42, Tryz.ntmps42
    go_wp2_with fail
    go_ret
    exact ⟨ret_bool rfl HS.out.symm, (by repeat (first | exact Bel.refl _ | assumption | refine Bel.alloc ?_ _ | refine Bel.drew ?_ | refine Bel.set ?_ (by first | exact Nat.le_refl _ | (simp; done) | (simp; omega)) _))⟩
  · have hq : ((ks.length : Int) == 1) = false := len_ne (by omega)
    clear h
    go_enter Tryz.func42, Tryz.ntmps42
    go_wp2_with fail
    go_ret
    exact ⟨ret_bool rfl HS.out.symm, (by repeat (first | exact Bel.refl _ | assumption | refine Bel.alloc ?_ _ | refine Bel.drew ?_ | refine Bel.set ?_ (by first | exact Nat.le_refl _ | (simp; done) | (simp; omega)) _))⟩

set_option maxRecDepth 100000 in
set_option maxHeartbeats 4000000 in
theorem shHead_none (k t : ByteArray) (ks : List Nd) (h1 : ¬ k.toList = [105, 102]) (h2 : ¬ k.toList = [102, 111, 114]) (h3 : ¬ k.toList = [115, 119, 105, 116, 99, 104]) (h4 : ¬ k.toList = [116, 121, 112, 101, 115]) (h5 : ¬ k.toList = [115, 101, 108, 101, 99, 116, 115]) (kv : Value) (w : World) (hn : NdK w.heap.size w (.mk k t ks) kv) :
    Tells 42 #[nodeV (.mk k t ks) kv] w (headB k.toList ks) := by
  obtain ⟨a, cap, rfl, hcap, hm⟩ := hn.slice
  have HS := hide (show headB k.toList ks = false by simp [headB, h1, h2, h3, h4, h5])
  have m1 := beq_ne h1
  have m2 := beq_ne h2
  have m3 := beq_ne h3
  have m4 := beq_ne h4
  have m5 := beq_ne h5
  unfold nodeV Tells
  simp only [Nd.kids_mk, Nd.kind_mk, Nd.text_mk] at hcap ⊢
  clear hn h1 h2 h3 h4 h5
  go_enter Tryz.func42, Tryz.ntmps42
  go_wp2_with fail
  go_ret
  exact ⟨ret_bool rfl HS.out.symm, (by repeat (first | exact Bel.refl _ | assumption | refine Bel.alloc ?_ _ | refine Bel.drew ?_ | refine Bel.set ?_ (by first | exact Nat.le_refl _ | (simp; done) | (simp; omega)) _))⟩

theorem shHead_tells (n : Nd) (kv : Value) (w : World) (hn : NdK w.heap.size w n kv) (ih0 : ∀ c, c ∈ n.kids → StTells c) (ih1 : ∀ c, c ∈ n.kids → ∀ d, d ∈ c.kids → StTells d) (ih2 : ∀ c, c ∈ n.kids → ∀ d, d ∈ c.kids → ∀ e, e ∈ d.kids → StTells e) :
    Tells 42 #[nodeV n kv] w (headB n.kd n.kids) := by
  obtain ⟨k, t, ks⟩ := n
  simp only [Nd.kids_mk, Nd.kd_mk] at *
  by_cases h1 : k.toList = [105, 102]
  · obtain rfl := ba_eq h1
    by_cases hl : ks.length = 4
    · match ks, hl with
      | [a, b, c, d], _ => exact shHead_four _ t (.inl rfl) a b c d kv w hn (ih0 d (by simp)) ih1
    · exact shHead_len _ t ks (.inl ⟨.inl rfl, hl⟩) kv w hn
  by_cases h2 : k.toList = [102, 111, 114]
  · obtain rfl := ba_eq h2
    by_cases hl : ks.length = 4
    · match ks, hl with
      | [a, b, c, d], _ => exact shHead_four _ t (.inr rfl) a b c d kv w hn (ih0 d (by simp)) ih1
    · exact shHead_len _ t ks (.inl ⟨.inr rfl, hl⟩) kv w hn
  by_cases h3 : k.toList = [115, 119, 105, 116, 99, 104]
  · obtain rfl := ba_eq h3
    by_cases hl : ks.length = 3
    · match ks, hl with
      | [a, b, c], _ => exact shHead_three _ t (.inl rfl) a b c kv w hn (ih2 c (by simp))
    · exact shHead_len _ t ks (.inr (.inl ⟨.inl rfl, hl⟩)) kv w hn
  by_cases h4 : k.toList = [116, 121, 112, 101, 115]
  · obtain rfl := ba_eq h4
    by_cases hl : ks.length = 3
    · match ks, hl with
      | [a, b, c], _ => exact shHead_three _ t (.inr rfl) a b c kv w hn (ih2 c (by simp))
    · exact shHead_len _ t ks (.inr (.inl ⟨.inr rfl, hl⟩)) kv w hn
  by_cases h5 : k.toList = [115, 101, 108, 101, 99, 116, 115]
  · obtain rfl := ba_eq h5
    by_cases hl : ks.length = 1
    · match ks, hl with
      | [a], _ =>
        rw [show (⟨#[115, 101, 108, 101, 99, 116, 115]⟩ : ByteArray).toList = [115, 101, 108, 101, 99, 116, 115] from by simp]
        exact shHead_one t a kv w hn (ih2 a (by simp))
    · exact shHead_len _ t ks (.inr (.inr ⟨rfl, hl⟩)) kv w hn
  exact shHead_none k t ks h1 h2 h3 h4 h5 kv w hn
end Go.Proofs.YtkkgfgllfbahlaaGreatFmt

namespace Go.Proofs.YtkkgfgllfbahlaaGreatFmt
open Go Go.RowKit

theorem kd_beq (a : Nd) (l : List UInt8) : (a.kind.toList == l) = decide (a.kd = l) := by
  rw [Bool.eq_iff_iff, beq_iff_eq, decide_eq_true_iff]
  exact Iff.rfl

theorem laB_ne {ks : List Nd} (h : ks.length ≠ 1) : laB ks = false ∧ goB ks = false := by
  match ks with
  | [] => exact ⟨rfl, rfl⟩
  | [a] => simp at h
  | a :: b :: r => exact ⟨rfl, rfl⟩

set_option maxRecDepth 100000 in
set_option maxHeartbeats 4000000 in
theorem shS_go (k t : ByteArray) (hk : k = ⟨#[103, 111]⟩ ∨ k = ⟨#[100, 101, 102, 101, 114]⟩) (ks : List Nd) (kv : Value) (w : World) (hn : NdK w.heap.size w (.mk k t ks) kv) :
    Tells 24 #[nodeV (.mk k t ks) kv] w (decide (t.toList = []) && goB ks) := by
  by_cases h1 : ks.length = 1
  · match ks, h1 with
    | [a], _ =>
      simp only [NdK, RowK] at hn
      rcases hn with ⟨_, hn⟩ | ⟨bl, o, cap, rfl, hcap, hm, va, hb, a0, a1, a2, hna, _⟩
      · simp at hn
      have HA := hide (fun W (h : Bel w W) => shE_tells a va W (hna.later h))
      clear hna
      unfold maxLen at hm
      unfold nodeV Tells at *
      simp only [List.length_cons, List.length_nil, Nd.kind_mk, Nd.text_mk] at hcap ⊢
      have hb' : bl < w.heap.size + 1 := by omega
      by_cases ht : t.toList = []
      · rcases hk with rfl | rfl
        all_goals
          go_enter Tryz.func24, Tryz.ntmps24
          go_wp2_with fail
          refine (HA.out _ ?_).mono ?_
          · exact (by repeat (first | exact Bel.refl _ | assumption | refine Bel.alloc ?_ _ | refine Bel.drew ?_ | refine Bel.set ?_ (by first | exact Nat.le_refl _ | (simp; done) | (simp; omega)) _))
          rintro e w1 ⟨rfl, hT⟩
          have hw : Bel w w1 := Bel.trans (by repeat (first | exact Bel.refl _ | assumption | refine Bel.alloc ?_ _ | refine Bel.drew ?_ | refine Bel.set ?_ (by first | exact Nat.le_refl _ | (simp; done) | (simp; omega)) _)) hT
          have hc := hT.cellN (N := w.heap.size + 1) (by simp)
          cases hx : shE a
          · go_wp2_with fail
            go_ret
            exact ⟨ret_bool rfl (by simp [goB, hx]), hw⟩
          · go_wp2_with fail
            go_ret
            exact ⟨ret_bool rfl (by simp only [goB, hx, ht, decide_true, Bool.true_and]; exact kd_beq a _), hw⟩
      · rcases hk with rfl | rfl
        all_goals
          go_enter Tryz.func24, Tryz.ntmps24
          go_wp2_with fail
          go_ret
          exact ⟨ret_bool rfl (by simp [ht]), (by repeat (first | exact Bel.refl _ | assumption | refine Bel.alloc ?_ _ | refine Bel.drew ?_ | refine Bel.set ?_ (by first | exact Nat.le_refl _ | (simp; done) | (simp; omega)) _))⟩
  · obtain ⟨a, cap, rfl, hcap, hm⟩ := hn.slice
    have hq : ((ks.length : Int) == 1) = false := len_ne (by omega)
    have HS := hide (show (decide (t.toList = []) && goB ks) = false by rw [(laB_ne h1).2]; simp)
    unfold nodeV Tells
    simp only [Nd.kids_mk, Nd.kind_mk, Nd.text_mk] at hcap ⊢
    clear hn h1
    by_cases ht : t.toList = []
    · rcases hk with rfl | rfl
      all_goals
        go_enter Tryz.func24, Tryz.ntmps24
        go_wp2_with fail
        go_ret
        exact ⟨ret_bool rfl HS.out.symm, (by repeat (first | exact Bel.refl _ | assumption | refine Bel.alloc ?_ _ | refine Bel.drew ?_ | refine Bel.set ?_ (by first | exact Nat.le_refl _ | (simp; done) | (simp; omega)) _))⟩
    · rcases hk with rfl | rfl
      all_goals
        go_enter Tryz.func24, Tryz.ntmps24
        go_wp2_with fail
        go_ret
        exact ⟨ret_bool rfl HS.out.symm, (by repeat (first | exact Bel.refl _ | assumption | refine Bel.alloc ?_ _ | refine Bel.drew ?_ | refine Bel.set ?_ (by first | exact Nat.le_refl _ | (simp; done) | (simp; omega)) _))⟩

def branchOpsB : List ByteArray := [⟨#[98, 114, 101, 97, 107]⟩, ⟨#[99, 111, 110, 116, 105, 110, 117, 101]⟩, ⟨#[103, 111, 116, 111]⟩, ⟨#[102, 97, 108, 108, 116, 104, 114, 111, 117, 103, 104]⟩]
theorem has_branchOps (t : ByteArray) : hasStr branchOpsB t = decide (t.toList ∈ branchOps) := by
  rw [Bool.eq_iff_iff]
  simp [hasStr, branchOpsB, branchOps]

set_option maxRecDepth 100000 in
set_option maxHeartbeats 4000000 in
theorem shS_branch (t : ByteArray) (ks : List Nd) (kv : Value) (w : World) (hn : NdK w.heap.size w (.mk ⟨#[98, 114, 97, 110, 99, 104]⟩ t ks) kv) :
    Tells 24 #[nodeV (.mk ⟨#[98, 114, 97, 110, 99, 104]⟩ t ks) kv] w (decide (t.toList ∈ branchOps) && brB ks) := by
  have HC := hide (fun W v h => containsStr_any W branchOpsB v t h)
  rw [has_branchOps] at HC
  have HV := hide (fun W (h : Bel w W) => everyE_tells ks kv W (hn.sl.later h))
  by_cases ht : t.toList ∈ branchOps
  · rw [decide_eq_true ht] at HC
    match ks with
    | [] =>
      obtain ⟨a, cap, rfl, hcap, hm⟩ := hn.slice
      clear hn
      unfold nodeV Tells at *
      simp only [Nd.kids_mk, Nd.kind_mk, Nd.text_mk, List.length_nil] at hcap HV ⊢
      have HT := hide ht
      clear ht
      go_enter Tryz.func24, Tryz.ntmps24
      go_wp2_with fail
      refine (HC.out _ _ ?_).mono ?_
      · exact SlV.new (w.alloc _) _ (by simp) _ _ _ rfl (by decide)
      rintro e w1 ⟨rfl, rfl⟩
      go_wp2_with fail
      refine (HV.out _ ?_).mono ?_
      · exact (by repeat (first | exact Bel.refl _ | assumption | refine Bel.alloc ?_ _ | refine Bel.drew ?_ | refine Bel.set ?_ (by first | exact Nat.le_refl _ | (simp; done) | (simp; omega)) _))
      rintro e w2 ⟨rfl, hT⟩
      go_wp2_with fail
      go_ret
      exact ⟨ret_bool rfl (by simp [brB, HT.out]), Bel.trans (by repeat (first | exact Bel.refl _ | assumption | refine Bel.alloc ?_ _ | refine Bel.drew ?_ | refine Bel.set ?_ (by first | exact Nat.le_refl _ | (simp; done) | (simp; omega)) _)) hT⟩
    | [a] =>
      simp only [NdK, RowK] at hn
      rcases hn with ⟨_, hn⟩ | ⟨bl, o, cap, rfl, hcap, hm, va, hb, a0, a1, a2, hna, _⟩
      · simp at hn
      clear hna
      unfold maxLen at hm
      unfold nodeV Tells at *
      simp only [List.length_cons, List.length_nil, Nd.kind_mk, Nd.text_mk, List.all_cons, List.all_nil, Bool.and_true] at hcap HV ⊢
      have hb' : bl < w.heap.size + 1 + 1 := by omega
      have HT := hide ht
      clear ht
      go_enter Tryz.func24, Tryz.ntmps24
      go_wp2_with fail
      refine (HC.out _ _ ?_).mono ?_
      · exact SlV.new (w.alloc _) _ (by simp) _ _ _ rfl (by decide)
      rintro e w1 ⟨rfl, rfl⟩
      go_wp2_with fail
      refine (HV.out _ ?_).mono ?_
      · exact (by repeat (first | exact Bel.refl _ | assumption | refine Bel.alloc ?_ _ | refine Bel.drew ?_ | refine Bel.set ?_ (by first | exact Nat.le_refl _ | (simp; done) | (simp; omega)) _))
      rintro e w2 ⟨rfl, hT⟩
      have hw : Bel w w2 := Bel.trans (by repeat (first | exact Bel.refl _ | assumption | refine Bel.alloc ?_ _ | refine Bel.drew ?_ | refine Bel.set ?_ (by first | exact Nat.le_refl _ | (simp; done) | (simp; omega)) _)) hT
      have hc := hT.cellN (N := w.heap.size + 1 + 1) (by simp)
      cases hx : shE a
      · go_wp2_with fail
        go_ret
        exact ⟨ret_bool rfl (by simp [brB, hx]), hw⟩
      · go_wp2_with fail
        go_ret
        exact ⟨ret_bool rfl (by simp only [brB, hx, decide_eq_true HT.out, Bool.true_and]; exact kd_beq a _), hw⟩
    | a :: b :: r =>
      obtain ⟨ad, cap, rfl, hcap, hm⟩ := hn.slice
      clear hn
      unfold nodeV Tells at *
      simp only [Nd.kids_mk, Nd.kind_mk, Nd.text_mk, List.length_cons] at hcap HV ⊢
      have hge : ¬ ((r.length : Int) + 1 + 1 < 2) := by omega
      clear ht
      go_enter Tryz.func24, Tryz.ntmps24
      go_wp2_with fail
      refine (HC.out _ _ ?_).mono ?_
      · exact SlV.new (w.alloc _) _ (by simp) _ _ _ rfl (by decide)
      rintro e w1 ⟨rfl, rfl⟩
      go_wp2_with fail
      go_ret
      exact ⟨ret_bool rfl (by simp [brB]), (by repeat (first | exact Bel.refl _ | assumption | refine Bel.alloc ?_ _ | refine Bel.drew ?_ | refine Bel.set ?_ (by first | exact Nat.le_refl _ | (simp; done) | (simp; omega)) _))⟩
  · rw [decide_eq_false ht] at HC
    obtain ⟨ad, cap, rfl, hcap, hm⟩ := hn.slice
    clear hn HV
    unfold nodeV Tells
    simp only [Nd.kids_mk, Nd.kind_mk, Nd.text_mk] at hcap ⊢
    have HT := hide ht
    clear ht
    go_enter Tryz.func24, Tryz.ntmps24
    go_wp2_with fail
    refine (HC.out _ _ ?_).mono ?_
    · exact SlV.new (w.alloc _) _ (by simp) _ _ _ rfl (by decide)
    rintro e w1 ⟨rfl, rfl⟩
    go_wp2_with fail
    go_ret
    exact ⟨ret_bool rfl (by simp [HT.out]), (by repeat (first | exact Bel.refl _ | assumption | refine Bel.alloc ?_ _ | refine Bel.drew ?_ | refine Bel.set ?_ (by first | exact Nat.le_refl _ | (simp; done) | (simp; omega)) _))⟩

set_option maxRecDepth 100000 in
set_option maxHeartbeats 4000000 in
theorem shS_label (t : ByteArray) (ks : List Nd) (kv : Value) (w : World) (hn : NdK w.heap.size w (.mk ⟨#[108, 97, 98, 101, 108]⟩ t ks) kv) (ih : ∀ k, k ∈ ks → StTells k) :
    Tells 24 #[nodeV (.mk ⟨#[108, 97, 98, 101, 108]⟩ t ks) kv] w (laB ks) := by
  by_cases h1 : ks.length = 1
  · match ks, h1 with
    | [a], _ =>
      simp only [NdK, RowK] at hn
      rcases hn with ⟨_, hn⟩ | ⟨bl, o, cap, rfl, hcap, hm, va, hb, a0, a1, a2, hna, _⟩
      · simp at hn
      have HA := hide (fun W (h : Bel w W) => ih a (by simp) va W (hna.later h))
      clear hna ih
      unfold maxLen at hm
      unfold nodeV Tells at *
      simp only [List.length_cons, List.length_nil, Nd.kind_mk, Nd.text_mk] at hcap ⊢
      go_enter Tryz.func24, Tryz.ntmps24
      go_wp2_with fail
      refine (HA.out _ ?_).mono ?_
      · exact (by repeat (first | exact Bel.refl _ | assumption | refine Bel.alloc ?_ _ | refine Bel.drew ?_ | refine Bel.set ?_ (by first | exact Nat.le_refl _ | (simp; done) | (simp; omega)) _))
      rintro e w1 ⟨rfl, hT⟩
      have hw : Bel w w1 := Bel.trans (by repeat (first | exact Bel.refl _ | assumption | refine Bel.alloc ?_ _ | refine Bel.drew ?_ | refine Bel.set ?_ (by first | exact Nat.le_refl _ | (simp; done) | (simp; omega)) _)) hT
      have hc := hT.cellN (N := w.heap.size + 1) (by simp)
      go_wp2_with fail
      go_ret
      exact ⟨ret_bool rfl (by simp [laB]), hw⟩
  · obtain ⟨a, cap, rfl, hcap, hm⟩ := hn.slice
    have hq : ((ks.length : Int) == 1) = false := len_ne (by omega)
    have HS := hide (laB_ne h1).1
    unfold nodeV Tells
    simp only [Nd.kids_mk, Nd.kind_mk, Nd.text_mk] at hcap ⊢
    clear hn h1 ih
    go_enter Tryz.func24, Tryz.ntmps24
    go_wp2_with fail
    go_ret
    exact ⟨ret_bool rfl HS.out.symm, (by repeat (first | exact Bel.refl _ | assumption | refine Bel.alloc ?_ _ | refine Bel.drew ?_ | refine Bel.set ?_ (by first | exact Nat.le_refl _ | (simp; done) | (simp; omega)) _))⟩

set_option maxRecDepth 100000 in
set_option maxHeartbeats 4000000 in
theorem shS_return (t : ByteArray) (ks : List Nd) (kv : Value) (w : World) (hn : NdK w.heap.size w (.mk ⟨#[114, 101, 116, 117, 114, 110]⟩ t ks) kv) :
    Tells 24 #[nodeV (.mk ⟨#[114, 101, 116, 117, 114, 110]⟩ t ks) kv] w (decide (t.toList = []) && ks.all shE) := by
  obtain ⟨a, cap, hv, hcap, hm⟩ := hn.slice
  have HV := hide (fun W (h : Bel w W) => everyE_tells ks kv W (hn.sl.later h))
  clear hn
  subst hv
  unfold nodeV Tells at *
  simp only [Nd.kids_mk, Nd.kind_mk, Nd.text_mk] at hcap HV ⊢
  by_cases ht : t.toList = []
  · go_enter Tryz.func24, Tryz.ntmps24
    go_wp2_with fail
    refine (HV.out _ ?_).mono ?_
    · exact (by repeat (first | exact Bel.refl _ | assumption | refine Bel.alloc ?_ _ | refine Bel.drew ?_ | refine Bel.set ?_ (by first | exact Nat.le_refl _ | (simp; done) | (simp; omega)) _))
    rintro e w1 ⟨rfl, hT⟩
    have hw : Bel w w1 := Bel.trans (by repeat (first | exact Bel.refl _ | assumption | refine Bel.alloc ?_ _ | refine Bel.drew ?_ | refine Bel.set ?_ (by first | exact Nat.le_refl _ | (simp; done) | (simp; omega)) _)) hT
    have hc := hT.cellN (N := w.heap.size + 1) (by simp)
    go_wp2_with fail
    go_ret
    exact ⟨ret_bool rfl (by simp [ht]), hw⟩
  · go_enter Tryz.func24, Tryz.ntmps24
    go_wp2_with fail
    go_ret
    exact ⟨ret_bool rfl (by simp [ht]), (by repeat (first | exact Bel.refl _ | assumption | refine Bel.alloc ?_ _ | refine Bel.drew ?_ | refine Bel.set ?_ (by first | exact Nat.le_refl _ | (simp; done) | (simp; omega)) _))⟩

set_option maxRecDepth 100000 in
set_option maxHeartbeats 4000000 in
theorem shS_block (t : ByteArray) (ks : List Nd) (kv : Value) (w : World) (hn : NdK w.heap.size w (.mk ⟨#[98, 108, 111, 99, 107]⟩ t ks) kv) (ih : ∀ k, k ∈ ks → StTells k) :
    Tells 24 #[nodeV (.mk ⟨#[98, 108, 111, 99, 107]⟩ t ks) kv] w (decide (t.toList = []) && ks.all shS) := by
  have HV := hide (fun W (h : Bel w W) => shBlock_tells (.mk ⟨#[98, 108, 111, 99, 107]⟩ t ks) kv W (hn.later h) ih)
  obtain ⟨a, cap, rfl, hcap, hm⟩ := hn.slice
  clear hn ih
  unfold nodeV Tells at *
  simp only [Nd.kids_mk, Nd.kind_mk, Nd.text_mk] at hcap HV ⊢
  go_enter Tryz.func24, Tryz.ntmps24
  go_wp2_with fail
  refine (HV.out _ ?_).mono ?_
  · exact (by repeat (first | exact Bel.refl _ | assumption | refine Bel.alloc ?_ _ | refine Bel.drew ?_ | refine Bel.set ?_ (by first | exact Nat.le_refl _ | (simp; done) | (simp; omega)) _))
  rintro e w1 ⟨rfl, hT⟩
  have hw : Bel w w1 := Bel.trans (by repeat (first | exact Bel.refl _ | assumption | refine Bel.alloc ?_ _ | refine Bel.drew ?_ | refine Bel.set ?_ (by first | exact Nat.le_refl _ | (simp; done) | (simp; omega)) _)) hT
  have hc := hT.cellN (N := w.heap.size + 1) (by simp)
  go_wp2_with fail
  go_ret
  exact ⟨ret_bool rfl (by simp [shBlock_eq]), hw⟩

set_option maxRecDepth 100000 in
set_option maxHeartbeats 4000000 in
theorem shS_range (t : ByteArray) (ks : List Nd) (kv : Value) (w : World) (hn : NdK w.heap.size w (.mk ⟨#[114, 97, 110, 103, 101]⟩ t ks) kv) (ih : ∀ c, c ∈ ks → ∀ d, d ∈ c.kids → StTells d) :
    Tells 24 #[nodeV (.mk ⟨#[114, 97, 110, 103, 101]⟩ t ks) kv] w (rngB t.toList ks) := by
  have HV := hide (fun W (h : Bel w W) => shRange_tells ⟨#[114, 97, 110, 103, 101]⟩ t ks kv W (hn.later h) ih)
  obtain ⟨a, cap, rfl, hcap, hm⟩ := hn.slice
  clear hn ih
  unfold nodeV Tells at *
  simp only [Nd.kids_mk, Nd.kind_mk, Nd.text_mk] at hcap HV ⊢
  go_enter Tryz.func24, Tryz.ntmps24
  go_wp2_with fail
  refine (HV.out _ ?_).mono ?_
  · exact (by repeat (first | exact Bel.refl _ | assumption | refine Bel.alloc ?_ _ | refine Bel.drew ?_ | refine Bel.set ?_ (by first | exact Nat.le_refl _ | (simp; done) | (simp; omega)) _))
  rintro e w1 ⟨rfl, hT⟩
  have hw : Bel w w1 := Bel.trans (by repeat (first | exact Bel.refl _ | assumption | refine Bel.alloc ?_ _ | refine Bel.drew ?_ | refine Bel.set ?_ (by first | exact Nat.le_refl _ | (simp; done) | (simp; omega)) _)) hT
  have hc := hT.cellN (N := w.heap.size + 1) (by simp)
  go_wp2_with fail
  go_ret
  exact ⟨rfl, hw⟩

set_option maxRecDepth 100000 in
set_option maxHeartbeats 4000000 in
theorem shS_rest (k t : ByteArray) (ks : List Nd) (h1 : ¬ k.toList = [103, 111]) (h2 : ¬ k.toList = [100, 101, 102, 101, 114]) (h3 : ¬ k.toList = [114, 101, 116, 117, 114, 110]) (h4 : ¬ k.toList = [98, 114, 97, 110, 99, 104]) (h5 : ¬ k.toList = [108, 97, 98, 101, 108]) (h6 : ¬ k.toList = [98, 108, 111, 99, 107]) (h7 : ¬ k.toList = [114, 97, 110, 103, 101]) (kv : Value) (w : World) (hn : NdK w.heap.size w (.mk k t ks) kv)
    (ih0 : ∀ c, c ∈ ks → StTells c) (ih1 : ∀ c, c ∈ ks → ∀ d, d ∈ c.kids → StTells d) (ih2 : ∀ c, c ∈ ks → ∀ d, d ∈ c.kids → ∀ e, e ∈ d.kids → StTells e) :
    Tells 24 #[nodeV (.mk k t ks) kv] w (shSimple (.mk k t ks) || decide (t.toList = []) && headB k.toList ks) := by
  have HS := hide (fun W (h : Bel w W) => shSimple_tells (.mk k t ks) kv W (hn.later h))
  have HH := hide (fun W (h : Bel w W) => shHead_tells (.mk k t ks) kv W (hn.later h) ih0 ih1 ih2)
  obtain ⟨a, cap, rfl, hcap, hm⟩ := hn.slice
  have m1 := beq_ne h1
  have m2 := beq_ne h2
  have m3 := beq_ne h3
  have m4 := beq_ne h4
  have m5 := beq_ne h5
  have m6 := beq_ne h6
  have m7 := beq_ne h7
  clear hn ih0 ih1 ih2 h1 h2 h3 h4 h5 h6 h7
  unfold nodeV Tells at *
  simp only [Nd.kids_mk, Nd.kind_mk, Nd.text_mk, Nd.kd_mk] at hcap HS HH ⊢
  by_cases ht : t.toList = []
  all_goals
    go_enter Tryz.func24, Tryz.ntmps24
    go_wp2_with fail
    refine (HS.out _ ?_).mono ?_
    · exact (by repeat (first | exact Bel.refl _ | assumption | refine Bel.alloc ?_ _ | refine Bel.drew ?_ | refine Bel.set ?_ (by first | exact Nat.le_refl _ | (simp; done) | (simp; omega)) _))
    rintro e w1 ⟨rfl, hT⟩
    have hw : Bel w w1 := Bel.trans (by repeat (first | exact Bel.refl _ | assumption | refine Bel.alloc ?_ _ | refine Bel.drew ?_ | refine Bel.set ?_ (by first | exact Nat.le_refl _ | (simp; done) | (simp; omega)) _)) hT
    have hc := hT.cellN (N := w.heap.size + 1) (by simp)
    cases hx : shSimple (.mk k t ks)
  · go_wp2_with fail
    refine (HH.out _ ?_).mono ?_
    · exact hw
    rintro e w2 ⟨rfl, hT2⟩
    have hT := Bel.trans hT hT2
    have hw := Bel.trans hw hT2
    clear hc hT2
    have hc := hT.cellN (N := w.heap.size + 1) (by simp)
    go_wp2_with fail
    go_ret
    exact ⟨ret_bool rfl (by simp [hx, ht]), hw⟩
  · go_wp2_with fail
    go_ret
    exact ⟨ret_bool rfl (by simp [hx]), hw⟩
  · go_wp2_with fail
    go_ret
    exact ⟨ret_bool rfl (by simp [hx, ht]), hw⟩
  · go_wp2_with fail
    go_ret
    exact ⟨ret_bool rfl (by simp [hx]), hw⟩

theorem shS_any : ∀ (m : Nat) (n : Nd), n.nodes ≤ m → StTells n := by
  intro m
  induction m with
  | zero => intro n hm; have := n.nodes_pos; omega
  | succ m ih =>
    intro n hm kv w hn
    have i0 : ∀ k, k ∈ n.kids → StTells k := fun k hk => ih k (by have := nodesL_mem hk; have := n.nodes_kids; omega)
    have i1 : ∀ c, c ∈ n.kids → ∀ d, d ∈ c.kids → StTells d := fun c hc d hd => ih d (by have := nodesL_mem hc; have := n.nodes_kids; have := nodesL_mem hd; have := c.nodes_kids; omega)
    have i2 : ∀ c, c ∈ n.kids → ∀ d, d ∈ c.kids → ∀ e, e ∈ d.kids → StTells e := fun c hc d hd e he => ih e (by have := nodesL_mem hc; have := n.nodes_kids; have := nodesL_mem hd; have := c.nodes_kids; have := nodesL_mem he; have := d.nodes_kids; omega)
    obtain ⟨k, t, ks⟩ := n
    simp only [Nd.kids_mk] at i0 i1 i2
    rw [shS_eq]
    by_cases h1 : k.toList = [103, 111]
    · rw [if_pos (.inl h1)]
      exact shS_go k t (.inl (ba_eq h1)) ks kv w hn
    by_cases h2 : k.toList = [100, 101, 102, 101, 114]
    · rw [if_pos (.inr h2)]
      exact shS_go k t (.inr (ba_eq h2)) ks kv w hn
    rw [if_neg (by simp [h1, h2])]
    by_cases h3 : k.toList = [114, 101, 116, 117, 114, 110]
    · rw [if_pos h3]
      obtain rfl := ba_eq h3
      exact shS_return t ks kv w hn
    rw [if_neg h3]
    by_cases h4 : k.toList = [98, 114, 97, 110, 99, 104]
    · rw [if_pos h4]
      obtain rfl := ba_eq h4
      exact shS_branch t ks kv w hn
    rw [if_neg h4]
    by_cases h5 : k.toList = [108, 97, 98, 101, 108]
    · rw [if_pos h5]
      obtain rfl := ba_eq h5
      exact shS_label t ks kv w hn i0
    rw [if_neg h5]
    by_cases h6 : k.toList = [98, 108, 111, 99, 107]
    · rw [if_pos h6]
      obtain rfl := ba_eq h6
      exact shS_block t ks kv w hn i0
    rw [if_neg h6]
    by_cases h7 : k.toList = [114, 97, 110, 103, 101]
    · rw [if_pos h7]
      obtain rfl := ba_eq h7
      exact shS_range t ks kv w hn i1
    rw [if_neg h7]
    exact shS_rest k t ks h1 h2 h3 h4 h5 h6 h7 kv w hn i0 i1 i2

theorem shS_tells (n : Nd) : StTells n := shS_any _ n (Nat.le_refl _)
#print axioms shS_tells
end Go.Proofs.YtkkgfgllfbahlaaGreatFmt

namespace Go.Proofs.YtkkgfgllfbahlaaGreatFmt
open Go Go.RowKit

/-- The relation of count's loop. -/
def CntRel (lb : Nat) (ks : List Nd) (l d : Int) (w : World) (c : Value) (wr : World) : Prop :=
  ∃ (k : Nat) (lk : Int), k ≤ ks.length ∧ c = .int .i64 k ∧ cntL ks l d = cntL (ks.drop k) lk d ∧ 0 ≤ lk ∧ lk ≤ 400 ∧ wr.cell? ⟨lb, 0, none⟩ = some (.int .i64 lk) ∧ wr.frozen? ⟨lb, 0, none⟩ = false ∧ But lb w wr

def CntPost (lb : Nat) (n : Nd) (l d : Int) (w : World) (e : Ending) (w' : World) : Prop :=
  e = .returned (.bool (cnt n l d).1) ∧ w'.cell? ⟨lb, 0, none⟩ = some (.int .i64 (cnt n l d).2) ∧ w'.frozen? ⟨lb, 0, none⟩ = false ∧ But lb w w'

theorem cnt_le : ∀ (m : Nat) (n : Nd), n.nodes ≤ m → ∀ l d, 0 ≤ l → (cnt n l d).2 ≤ l ∧ -1 ≤ (cnt n l d).2 := by
  intro m
  induction m with
  | zero => intro n hm; have := n.nodes_pos; omega
  | succ m ih =>
    intro n hm l d hl
    obtain ⟨k, t, ks⟩ := n
    simp only [cnt]
    split
    · simp only; omega
    · have key : ∀ (r : List Nd), (∀ x, x ∈ r → x ∈ ks) → ∀ l, 0 ≤ l → (cntL r l (d + 1)).2 ≤ l ∧ -1 ≤ (cntL r l (d + 1)).2 := by
        intro r
        induction r with
        | nil => intro _ l h0; simp [cntL]; omega
        | cons x r ihr =>
          intro hr l h0
          have hx := ih x (by have := nodesL_mem (hr x (by simp)); simp only [Nd.nodes] at hm; omega) l (d + 1) h0
          simp only [cntL]
          split
          · rename_i hc
            have h1 := cnt_nodes x l (d + 1) hc
            have := ihr (fun y hy => hr y (List.mem_cons_of_mem _ hy)) _ h1.2
            omega
          · exact hx
      have := key ks (fun _ h => h) (l - 1) (by omega)
      omega

set_option maxRecDepth 100000 in
set_option maxHeartbeats 2000000 in
theorem count_any : ∀ (m : Nat) (n : Nd), n.nodes ≤ m → ∀ (kv : Value) (w : World) (N lb : Nat) (l d : Int), NdK N w n kv → N ≤ lb → lb < w.heap.size → 0 ≤ l → l ≤ 400 → 0 ≤ d → d ≤ 61 →
    w.cell? ⟨lb, 0, none⟩ = some (.int .i64 l) → w.frozen? ⟨lb, 0, none⟩ = false →
    Calls Tryz.prog 35 #[nodeV n kv, .pointer (some ⟨lb, 0, none⟩), .int .i64 d] w (CntPost lb n l d w) := by
  intro m
  induction m with
  | zero => intro n hm; have := n.nodes_pos; omega
  | succ m ih =>
    intro n hm kv w N lb l d hn hN hlb hl0 hl4 hd0 hd6 hcl hfl
    obtain ⟨a, cap, hv, hcap, hmx⟩ := hn.slice
    have HN := hide hn
    clear hn
    subst hv
    obtain ⟨k, t, ks⟩ := n
    have HI := hide ih
    clear ih
    unfold nodeV
    simp only [Nd.kids_mk, Nd.kind_mk, Nd.text_mk] at hcap ⊢
    have hne : ¬ lb = w.heap.size := by omega
    have hs : ((w.setCell ⟨lb, 0, none⟩ (.int .i64 (l - 1))).alloc (.cells #[.string k, .string t, .slice a ks.length cap] 24)).cell? ⟨lb, 0, none⟩ = some (.int .i64 (l - 1)) := by
      rw [World.cell?_alloc_past _ _ _ (by simpa [World.setCell] using hlb)]
      exact World.cell?_setCell_same' _ _ _ (by rw [hcl]; rfl)
    have HS := hide hs
    have hfs : ((w.setCell ⟨lb, 0, none⟩ (.int .i64 (l - 1))).alloc (.cells #[.string k, .string t, .slice a ks.length cap] 24)).frozen? ⟨lb, 0, none⟩ = false := by
      rw [World.frozen?_alloc_past _ _ _ (by simpa [World.setCell] using hlb), World.frozen?_setCell]
      exact hfl
    have HF := hide hfs
    clear hs hfs
    by_cases hlow : l - 1 < 0
    · have HV := hide (show cnt (.mk k t ks) l d = (false, l - 1) by simp only [cnt]; rw [if_pos (.inl hlow)])
      go_enter Tryz.func35, Tryz.ntmps35
      go_wp2_with fail
      refine wp_region_quiet_lit (by kernel_rfl) (by kernel_rfl) ?_
      repeat (any_goals (first | go_big_quiet_step (fail) | quiet_step (fail)))
      refine wpQuiet_nil ?_
      intro _ hw'
      obtain ⟨nq, hw''⟩ := hw'
      subst hw''
      go_wp2_with fail
      go_ret
      unfold CntPost
      rw [HV.out]
      exact ⟨rfl, HS.out, HF.out, (((But.refl lb w).set 0 _).alloc _).drewN nq⟩
    · have hlb' : decide (l - 1 < 0) = false := decide_eq_false hlow
      by_cases hdp : 60 < d
      · have HV := hide (show cnt (.mk k t ks) l d = (false, l - 1) by simp only [cnt]; rw [if_pos (.inr (.inl hdp))])
        go_enter Tryz.func35, Tryz.ntmps35
        go_wp2_with fail
        refine wp_region_quiet_lit (by kernel_rfl) (by kernel_rfl) ?_
        repeat (any_goals (first | go_big_quiet_step (fail) | quiet_step (fail)))
        refine wpQuiet_nil ?_
        intro _ hw'
        obtain ⟨nq, hw''⟩ := hw'
        subst hw''
        go_wp2_with fail
        go_ret
        unfold CntPost
        rw [HV.out]
        exact ⟨rfl, HS.out, HF.out, (((But.refl lb w).set 0 _).alloc _).drewN nq⟩
      · have hdb : decide (60 < d) = false := decide_eq_false hdp
        by_cases hlen : l - 1 < ks.length
        · have HV := hide (show cnt (.mk k t ks) l d = (false, l - 1) by simp only [cnt]; rw [if_pos (.inr (.inr hlen))])
          go_enter Tryz.func35, Tryz.ntmps35
          go_wp2_with fail
          refine wp_region_quiet_lit (by kernel_rfl) (by kernel_rfl) ?_
          repeat (any_goals (first | go_big_quiet_step (fail) | quiet_step (fail)))
          refine wpQuiet_nil ?_
          intro _ hw'
          obtain ⟨nq, hw''⟩ := hw'
          subst hw''
          go_wp2_with fail
          go_ret
          unfold CntPost
          rw [HV.out]
          exact ⟨rfl, HS.out, HF.out, (((But.refl lb w).set 0 _).alloc _).drewN nq⟩
        · have hlnb : decide (l - 1 < ks.length) = false := decide_eq_false hlen
          have HV := hide (show cnt (.mk k t ks) l d = cntL ks (l - 1) (d + 1) by simp only [cnt]; rw [if_neg (by simp only [not_or]; exact ⟨hlow, hdp, hlen⟩)])
          go_enter Tryz.func35, Tryz.ntmps35
          go_wp2_with fail
          refine wp_region_quiet_lit (by kernel_rfl) (by kernel_rfl) ?_
          repeat (any_goals (first | go_big_quiet_step (fail) | quiet_step (fail)))
          refine wpQuiet_nil ?_
          intro _ hw'
          obtain ⟨nq, hw''⟩ := hw'
          subst hw''
          go_wp2_with fail
          have HN2 := hide hne
          have hB0 : But lb w (((w.setCell ⟨lb, 0, none⟩ (.int .i64 (l - 1))).alloc (.cells #[.string k, .string t, .slice a ks.length cap] 24)).drewN nq) := (((But.refl lb w).set 0 _).alloc _).drewN nq
          have HB0 := hide hB0
          clear hB0
          have hN2 := NdK_iff.mp HN.out
          simp only [Nd.kids_mk] at hN2
          rcases hN2 with ⟨hv, rfl⟩ | ⟨b, o, cap', hv, hc', hm', hr⟩
          · clear hv
            refine wp_loop_rounds 1 ?_
            rw [rounds_succ]
            go_wp2_with fail
            go_ret
            unfold CntPost
            rw [HV.out]
            exact ⟨rfl, HS.out, HF.out, HB0.out⟩
          · injection hv with e1 e2 e3
            subst e1 e3
            have HR := hide hr
            clear hr
            go_loopw [34] (fun c wr => CntRel lb ks (l - 1) (d + 1) w c wr) (fun c _ => ks.length - (intOf c).toNat)
            case atStart => exact ⟨0, l - 1, Nat.zero_le _, rfl, rfl, by omega, by omega, HS.out, HF.out, HB0.out⟩
            case round =>
              obtain ⟨i, li, hi, rfl, hcn, hli0, hli4, hcl2, hfl2, hb2⟩ := hrel
              have HCN := hide hcn; clear hcn
              have HB := hide hb2; clear hb2
              by_cases hlt : i < ks.length
              · obtain ⟨x, hx⟩ : ∃ x, ks[i]? = some x := ⟨ks[i], by simp⟩
                obtain ⟨kv, hbn, c0, c1, c2, hkn⟩ := HR.out.get hx
                obtain ⟨ka, kcap, hkv, -, -⟩ := hkn.slice
                subst hkv
                have hblb : b ≠ lb := by omega
                have s0 := (HB.out.cell rfl b (o + 3 * i) (by omega) hblb).trans c0
                have s1 := (HB.out.cell rfl b (o + 3 * i + 1) (by omega) hblb).trans c1
                have s2 := (HB.out.cell rfl b (o + 3 * i + 2) (by omega) hblb).trans c2
                rw [Nat.mul_comm] at s0 s1 s2
                have hszr : lb < wr.heap.size := Nat.lt_of_lt_of_le hlb HB.out.le
                have hsm : Same N w (wr.alloc (.cells #[.string x.kind, .string x.text, .slice ka x.kids.length kcap] 24)) := (HB.out.alloc _).same (by omega) hN
                have hcal := HI.out x (by have := nodesL_mem (List.mem_of_getElem? hx); simp only [Nd.nodes] at hm; omega) (.slice ka x.kids.length kcap) (wr.alloc (.cells #[.string x.kind, .string x.text, .slice ka x.kids.length kcap] 24)) N lb li (d + 1) (NdK.stay (Nat.le_refl _) hsm _ _ hkn) hN (by simp; omega) hli0 hli4 (by omega) (by omega)
                  (by rw [World.cell?_alloc_past _ _ _ hszr]; exact hcl2) (by rw [World.frozen?_alloc_past _ _ _ hszr]; exact hfl2)
                have HC := hide hcal
                have HX := hide hx
                clear hcal hx c0 c1 c2 hkn hsm
                unfold nodeV at HC
                have hdrop : ks.drop i = x :: ks.drop (i + 1) := by
                  rw [List.drop_eq_getElem_cons hlt]
                  have := HX.out
                  rw [List.getElem?_eq_getElem hlt] at this
                  injection this with this
                  rw [this]
                have HD := hide hdrop
                clear hdrop
                go_wp2_with fail
                refine HC.out.mono ?_
                rintro e w' hpost
                unfold CntPost at hpost
                obtain ⟨rfl, hc4, hf4, hb4⟩ := hpost
                have hb5 := (HB.out.alloc (.cells #[.string x.kind, .string x.text, .slice ka x.kids.length kcap] 24)).trans hb4
                have HB5 := hide hb5
                have HC4 := hide hc4
                have HF4 := hide hf4
                clear hb5 hc4 hf4 hb4
                cases hres : (cnt x li (d + 1)).1
                · have HRES := hide hres
                  clear hres
                  go_wp2_with fail
                  go_ret
                  unfold CntPost
                  have hfin : cnt (.mk k t ks) l d = (false, (cnt x li (d + 1)).2) := by
                    rw [HV.out, HCN.out, HD.out]
                    simp only [cntL, HRES.out]
                    rfl
                  rw [hfin]
                  exact ⟨rfl, HC4.out, HF4.out, HB5.out⟩
                · have HRES := hide hres
                  clear hres
                  go_wp2_with fail
                  go_roundw
                  case rel =>
                    have h1 := cnt_nodes x li (d + 1) HRES.out
                    have h2 := cnt_le x.nodes x (Nat.le_refl _) li (d + 1) hli0
                    refine ⟨i + 1, (cnt x li (d + 1)).2, by omega, by go_num, ?_, h1.2, by omega, HC4.out, HF4.out, HB5.out⟩
                    rw [HCN.out, HD.out]
                    simp only [cntL, HRES.out, if_true]
                  case measure => simp [intOf]; omega
              · have hie : i = ks.length := by omega
                subst hie
                go_wp2_with fail
                go_ret
                unfold CntPost
                have hfin : cnt (.mk k t ks) l d = (true, li) := by
                  rw [HV.out, HCN.out, List.drop_length]
                  simp only [cntL]
                rw [hfin]
                exact ⟨rfl, hcl2, hfl2, HB.out⟩
end Go.Proofs.YtkkgfgllfbahlaaGreatFmt

namespace Go.Proofs.YtkkgfgllfbahlaaGreatFmt
open Go Go.RowKit

theorem few_tells (n : Nd) (kv : Value) (w : World) (hn : NdK w.heap.size w n kv) : Tells 23 #[nodeV n kv] w (few n) := by
  unfold Tells
  obtain ⟨a, cap, hv, hcap, hmx⟩ := hn.slice
  subst hv
  have hb : Bel w ((w.alloc (.cells #[.string n.kind, .string n.text, .slice a n.kids.length cap] 24)).alloc (.cells #[.int .i64 400] 3)) := (by repeat (first | exact Bel.refl _ | assumption | refine Bel.alloc ?_ _ | refine Bel.drew ?_ | refine Bel.set ?_ (by first | exact Nat.le_refl _ | (simp; done) | (simp; omega)) _))
  have hc := count_any n.nodes n (Nat.le_refl _) (.slice a n.kids.length cap) ((w.alloc (.cells #[.string n.kind, .string n.text, .slice a n.kids.length cap] 24)).alloc (.cells #[.int .i64 400] 3)) w.heap.size (w.heap.size + 1) 400 0
    (hn.stay (Nat.le_refl _) (hb.same (Nat.le_refl _))) (by omega) (by simp) (by omega) (by omega) (by omega) (by omega) (by simp) (by simp)
  have HC := hide hc
  have HB := hide hb
  clear hn hc hb
  unfold nodeV at HC ⊢
  go_enter Tryz.func23, Tryz.ntmps23
  go_wp2_with fail
  refine HC.out.mono ?_
  rintro e w' hp
  unfold CntPost at hp
  obtain ⟨rfl, h1, h2, h3⟩ := hp
  have HB2 := hide (h3.bel HB.out (by omega))
  clear h1 h2 h3
  go_wp2_with fail
  go_ret
  exact ⟨rfl, HB2.out⟩

theorem shaped_tells (n : Nd) (kv : Value) (w : World) (hn : NdK w.heap.size w n kv) : Tells 10 #[nodeV n kv] w (shaped n) := by
  unfold Tells
  obtain ⟨a, cap, hv, hcap, hmx⟩ := hn.slice
  subst hv
  have H1 := hide (fun (W : World) (hW : Bel w W) => few_tells n _ W (hn.later hW))
  have H2 := hide (fun (W : World) (hW : Bel w W) => shS_tells n _ W (hn.later hW))
  clear hn
  unfold Tells at H1 H2
  unfold nodeV at H1 H2 ⊢
  go_enter Tryz.func10, Tryz.ntmps10
  go_wp2_with fail
  refine (H1.out _ ?_).mono ?_
  · exact (by repeat (first | exact Bel.refl _ | assumption | refine Bel.alloc ?_ _ | refine Bel.drew ?_ | refine Bel.set ?_ (by first | exact Nat.le_refl _ | (simp; done) | (simp; omega)) _))
  rintro e w1 ⟨rfl, hT⟩
  have hw : Bel w w1 := Bel.trans (by repeat (first | exact Bel.refl _ | assumption | refine Bel.alloc ?_ _ | refine Bel.drew ?_ | refine Bel.set ?_ (by first | exact Nat.le_refl _ | (simp; done) | (simp; omega)) _)) hT
  have hc := hT.cellN (N := w.heap.size + 1) (by simp)
  cases hb0 : few n
  · go_wp2_with fail
    go_ret
    exact ⟨ret_bool rfl (by simp [shaped, hb0]), hw⟩
  · skip
    go_wp2_with fail
    refine (H2.out _ ?_).mono ?_
    · exact hw
    rintro e w2 ⟨rfl, hT2⟩
    have hT := Bel.trans hT hT2
    have hw := Bel.trans hw hT2
    clear hc hT2
    have hc := hT.cellN (N := w.heap.size + 1) (by simp)
    go_wp2_with fail
    go_ret
    exact ⟨ret_bool rfl (by simp [shaped, hb0]), hw⟩

/-- zzFits1 answers, and turns nothing. -/
theorem fits_tells (n : Nd) (kv : Value) (w : World) (hn : NdK w.heap.size w n kv) : ∃ b, Tells 9 #[nodeV n kv] w b := by
  unfold Tells
  obtain ⟨a, cap, hv, hcap, hmx⟩ := hn.slice
  subst hv
  clear hn
  unfold nodeV
  by_cases h1 : (2147483647 : Int) < n.kind.size
  · refine ⟨false, ?_⟩
    go_enter Tryz.func9, Tryz.ntmps9
    go_wp2_with fail
    go_ret
    exact ⟨rfl, (by repeat (first | exact Bel.refl _ | assumption | refine Bel.alloc ?_ _ | refine Bel.drew ?_ | refine Bel.set ?_ (by first | exact Nat.le_refl _ | (simp; done) | (simp; omega)) _))⟩
  by_cases h2 : (2147483647 : Int) < n.text.size
  · refine ⟨false, ?_⟩
    go_enter Tryz.func9, Tryz.ntmps9
    go_wp2_with fail
    go_ret
    exact ⟨rfl, (by repeat (first | exact Bel.refl _ | assumption | refine Bel.alloc ?_ _ | refine Bel.drew ?_ | refine Bel.set ?_ (by first | exact Nat.le_refl _ | (simp; done) | (simp; omega)) _))⟩
  by_cases h3 : (2147483647 : Int) < n.kids.length
  · refine ⟨false, ?_⟩
    go_enter Tryz.func9, Tryz.ntmps9
    go_wp2_with fail
    go_ret
    exact ⟨rfl, (by repeat (first | exact Bel.refl _ | assumption | refine Bel.alloc ?_ _ | refine Bel.drew ?_ | refine Bel.set ?_ (by first | exact Nat.le_refl _ | (simp; done) | (simp; omega)) _))⟩
  refine ⟨true, ?_⟩
  go_enter Tryz.func9, Tryz.ntmps9
  go_wp2_with fail
  go_ret
  exact ⟨rfl, (by repeat (first | exact Bel.refl _ | assumption | refine Bel.alloc ?_ _ | refine Bel.drew ?_ | refine Bel.set ?_ (by first | exact Nat.le_refl _ | (simp; done) | (simp; omega)) _))⟩
end Go.Proofs.YtkkgfgllfbahlaaGreatFmt
