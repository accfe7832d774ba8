/- impl.visitor's Visit keeps what visV keeps.
impl.Visits. -/
import Derived.Test.YtkkgfgllfbahlaaGreatFmtCvA
import Derived.Test.YtkkgfgllfbahlaaGreatFmtWl
import Derived.Test.YtkkgfgllfbahlaaGreatFmtBEs
import Derived.Deep.AppendLies
import Derived.Deep.RegionHeld3
import Derived.Test.YtkkgfgllfbahlaaGreatFmtWd
import Derived.Test.YtkkgfgllfbahlaaGreatFmtBU
set_option linter.unusedVariables false
set_option linter.unusedSimpArgs false
namespace Go.Proofs.YtkkgfgllfbahlaaGreatFmt
open Go Go.RowKit
set_option linter.unusedSimpArgs false

theorem ownsRow_base {w : World} {b1 b2 e size n : Nat} {v : Value} {xs : List Value} (h : w.ownsRow b1 e size v n xs) (hb : b2 ≤ b1) : w.ownsRow b2 e size v n xs := by
  refine ⟨h.1, h.2.imp id ?_⟩
  rintro ⟨g, cap, cur, hv, h1, rest⟩
  exact ⟨g, cap, cur, hv, Nat.le_trans hb h1, rest⟩
def spV (x : Sp) : List Value := [.string x.1, .int .i64 x.2.1, .int .i64 x.2.2]
theorem info_span : (Tryz.prog.info? 29).map (fun i => (i.zero, i.size, i.bytes)) = some (some (.agg #[.string ⟨#[]⟩, .int .i64 0, .int .i64 0]), 3, 32) := by kernel_rfl
theorem under_spans : Tryz.prog.underlying 27 = some (.slice 29) := by kernel_rfl
/-- The visitor's inner value: how deep, where to stop, where to keep. -/
def xvV (stop : ByteArray) (ob : Nat) (d : Int) : Value := .agg #[.int .i64 d, .string stop, .pointer (some ⟨ob, 0, none⟩)]
def visW (stop : ByteArray) (ob : Nat) : Vis := visV (fun d => .iface 47 (xvV stop ob d)) stop
/-- What has been kept lies behind the pointer, in rows from wa on; all else lies as in wa. -/
def KeptV (ob : Nat) (wa : World) (b : Nat) (s : List Sp) (w : World) : Prop :=
  s.length + b ≤ 4000 ∧ w.frozen? ⟨ob, 0, none⟩ = false ∧ But ob wa w ∧ ∃ sv, w.cell? ⟨ob, 0, none⟩ = some sv ∧ w.ownsRow wa.heap.size 29 3 sv s.length (s.flatMap spV)
def okV (b : Nat) (d : Int) : Prop := 0 ≤ d ∧ d + b ≤ 4000

theorem KeptV.bel {ob : Nat} {wa : World} {b : Nat} {s : List Sp} {w w1 : World} (h : KeptV ob wa b s w) (hob : ob < wa.heap.size) (hb : Bel w w1) : KeptV ob wa b s w1 := by
  obtain ⟨hl, hfr, hbut, sv, hsv, hown⟩ := h
  have z0 := hbut.le
  have hobw : ob < w.heap.size := by omega
  exact ⟨hl, (hb.atf hobw 0).trans hfr, hbut.trans (But.of_bel hb), sv, (hb.at hobw 0).trans hsv, ownsRow_bel hown hb⟩
theorem KeptV.snoc {ob : Nat} {wa : World} {b : Nat} {s : List Sp} {x : Sp} {w WB w4 : World} {sv : Value} {g cap4 : Nat} (hob : ob < wa.heap.size) (hl : s.length + (b + 1) ≤ 4000) (hfr : w.frozen? ⟨ob, 0, none⟩ = false) (hbut : But ob wa w) (hsv : w.cell? ⟨ob, 0, none⟩ = some sv)
    (hown : w.ownsRow wa.heap.size 29 3 sv s.length (s.flatMap spV)) (hb : Bel w WB)
    (hown4 : w4.ownsRow wa.heap.size 29 3 (.slice (some ⟨g, 0, none⟩) (s.length + 1) cap4) (s.length + 1) (s.flatMap spV ++ spV x)) (hgrow4 : WB.grownBy w4 sv.ownBlock) :
    KeptV ob wa b (s ++ [x]) (w4.setCell ⟨ob, 0, none⟩ (.slice (some ⟨g, 0, none⟩) (s.length + 1) cap4)) := by
  have z0 := hbut.le
  have z1 := hb.le
  have hne : sv.ownBlock ≠ some ob := fun e => by have := (hown.lt ob e).1; omega
  have hgb : wa.heap.size ≤ g := (hown4.lt g rfl).1
  have hc : w4.heap[ob]? = w.heap[ob]? := (hgrow4.block ob (by omega) (fun e => hne e.symm)).trans (hb.block ob (by omega))
  refine ⟨by simp; omega, ?_, ?_, _, World.cell?_setCell_same' _ _ _ ?_, ?_⟩
  · rw [World.frozen?_setCell]; exact (World.frozen?_of_block hc).trans hfr
  · exact (((hbut.trans (But.of_bel hb)).grow hgrow4 (fun k hk => by have := (hown.lt k hk).1; omega))).set _ _
  · rw [World.cell?_of_block hc, hsv]; rfl
  · have e1 : (s ++ [x]).length = s.length + 1 := by simp
    have e2 : (s ++ [x]).flatMap spV = s.flatMap spV ++ spV x := by simp
    rw [e1, e2]
    exact hown4.kept (row := some ob) ⟨rfl, rfl, rfl, by simp [World.setCell], fun k hk hk2 => Below.heap_setCell w4 _ _ k (fun e => hk2 (by rw [e]))⟩ (Or.inr fun e => by
      have e : g = ob := by simpa [Value.ownBlock] using e
      omega)

set_option maxRecDepth 100000 in
set_option maxHeartbeats 4000000 in
theorem visit_any (stop : ByteArray) (ob : Nat) (wa : World) (hob : ob < wa.heap.size) (hob0 : 0 < ob) (k : ByteArray) (d : Int) (node : Value) (b : Nat) (s : List Sp) (w : World) (hok : okV (b + 1) d) (hR : KeptV ob wa (b + 1) s w)
    (hK : ∀ W, Bel w W → Calls Tryz.prog 30 #[node] W fun e w' => e = .returned (.string k) ∧ Bel W w') :
    Calls Tryz.prog 119 #[xvV stop ob d, node] w fun e w' => e = .returned (if k = stop then .nilIface else .iface 47 (xvV stop ob (d + 1))) ∧ KeptV ob wa b (s ++ [(k, d, d)]) w' := by
  obtain ⟨hl, hfr, hbut, sv, hsv, hown⟩ := hR
  obtain ⟨i0, hi, hz0, hz1, hz2⟩ := info_parts info_span
  obtain ⟨sa, sc, rfl⟩ := own_slice hown
  have z0 := hbut.le
  have hobw : ob < w.heap.size := by omega
  have hne1 : ¬ ob = w.heap.size := by omega
  have hne2 : ¬ w.heap.size = ob := by omega
  have HK := hide hK
  have HO := hide hown
  clear hK hown
  have hifq : (if k = stop then Value.nilIface else .iface 47 (xvV stop ob (d + 1))) = (if (k.toList == stop.toList) = true then Value.nilIface else .iface 47 (xvV stop ob (d + 1))) := by
    have : (k = stop) = ((k.toList == stop.toList) = true) := by
      rw [eq_iff_iff, beq_iff_eq]
      exact ⟨fun h => by rw [h], fun h => (ba_of h).trans (ba_of rfl).symm⟩
    simp only [this]
  rw [hifq]
  clear hifq
  have hok' := hok
  unfold okV at hok'
  unfold xvV
  cases hkb : (k.toList == stop.toList)
  all_goals simp only [Bool.false_eq_true, if_false, if_true]
  all_goals (
    go_enter Tryz.func119, Tryz.ntmps119
    go_wp2_with fail
    with_reducible refine Calls.mono (HK.out _ ?_) ?_
    · exact (by repeat (first | exact Bel.refl _ | assumption | refine Bel.alloc ?_ _ | refine Bel.drew ?_ | refine Bel.set ?_ (by first | exact Nat.le_refl _ | (simp; done) | (simp; omega)) _))
    rintro e w1 ⟨rfl, hT1⟩
    have hw1 : Bel w w1 := Bel.trans (by repeat (first | exact Bel.refl _ | assumption | refine Bel.alloc ?_ _ | refine Bel.drew ?_ | refine Bel.set ?_ (by first | exact Nat.le_refl _ | (simp; done) | (simp; omega)) _)) hT1
    have z1 := hT1.le
    simp only [World.size_alloc] at z1
    have c1_0 := hT1.at (b := w.heap.size) (by simp)
    have f1_0 := hT1.atf (b := w.heap.size) (by simp)
    have c1_1 := hw1.at (b := ob) hobw
    have f1_1 := hw1.atf (b := ob) hobw
    have l1_0 : w.heap.size < w1.heap.size := by omega
    have l1_1 : ob < w1.heap.size := by omega
    have n1_0 : ¬ w.heap.size = w1.heap.size := by omega
    have m1_0 : ¬ w1.heap.size = w.heap.size := by omega
    have n1_1 : ¬ ob = w1.heap.size := by omega
    have m1_1 : ¬ w1.heap.size = ob := by omega
    go_wp2_with fail
    have hB : Bel w (w1.drew.alloc (.cells #[.string k, .int .i64 d, .int .i64 d] 29)) := (by repeat (first | exact Bel.refl _ | assumption | refine Bel.alloc ?_ _ | refine Bel.drew ?_ | refine Bel.set ?_ (by first | exact Nat.le_refl _ | (simp; done) | (simp; omega)) _))
    have hno : (Value.slice sa s.length sc).ownBlock ≠ some w.heap.size := fun e => by have := (HO.out.lt _ e).2; omega
    have hno2 : (Value.slice sa s.length sc).ownBlock ≠ some ob := fun e => by have := (HO.out.lt _ e).1; omega
    have HB := hide hB
    have HN := hide (show _ ∧ _ from ⟨hno, hno2⟩)
    clear hB hno hno2
    refine wp_region_noPanic ?_
    refine wp_region_held_drew (S := (fun w' => w'.cell? ⟨w.heap.size, 0, none⟩ = some (.int .i64 d) ∧ w'.cell? ⟨w.heap.size, 1, none⟩ = some (.string stop) ∧ w'.cell? ⟨w.heap.size, 2, none⟩ = some (.pointer (some ⟨ob, 0, none⟩)))) (by kernel_rfl) ?_ (fun hHeld => ?_)
    · (try dsimp only); go_keep
    refine wpAnyH_take (i := 0) (oi := _) (v := ?_) (by simp only [List.getElem?_toArray, List.getElem?_cons_succ, List.getElem?_cons_zero]; rfl) (by kernel_rfl) (by kernel_rfl) (by kernel_rfl) (fun _ _ _ h => h) (Or.inl ⟨by rfl, ?_⟩) (by assumption) ?_
    rotate_left
    · ((intro w hSw; (try dsimp only at hSw); go_simp) <;> with_reducible rfl)
    try simp only [Act.put, List.setIfInBounds_toArray, List.set_cons_zero, List.set_cons_succ]
    refine wpAnyH_take (i := 1) (oi := _) (v := ?_) (by simp only [List.getElem?_toArray, List.getElem?_cons_succ, List.getElem?_cons_zero]; rfl) (by kernel_rfl) (by kernel_rfl) (by kernel_rfl) (fun _ _ _ h => h) (Or.inl ⟨by rfl, ?_⟩) (by assumption) ?_
    rotate_left
    · ((intro w hSw; (try dsimp only at hSw); go_simp) <;> with_reducible rfl)
    try simp only [Act.put, List.setIfInBounds_toArray, List.set_cons_zero, List.set_cons_succ]
    refine wpAnyH_take (i := 2) (oi := _) (v := ?_) (by simp only [List.getElem?_toArray, List.getElem?_cons_succ, List.getElem?_cons_zero]; rfl) (by kernel_rfl) (by kernel_rfl) (by kernel_rfl) (fun _ _ _ h => h) (Or.inl ⟨by rfl, ?_⟩) (by assumption) ?_
    rotate_left
    · ((intro w hSw; (try dsimp only at hSw); go_simp) <;> with_reducible rfl)
    try simp only [Act.put, List.setIfInBounds_toArray, List.set_cons_zero, List.set_cons_succ]
    refine wpAnyH_take (i := 3) (oi := _) (v := ?_) (by simp only [List.getElem?_toArray, List.getElem?_cons_succ, List.getElem?_cons_zero]; rfl) (by kernel_rfl) (by kernel_rfl) (by kernel_rfl) (fun _ _ _ h => h) (Or.inl ⟨by rfl, ?_⟩) (by assumption) ?_
    rotate_left
    · ((intro w hSw; (try dsimp only at hSw); go_simp) <;> with_reducible rfl)
    try simp only [Act.put, List.setIfInBounds_toArray, List.set_cons_zero, List.set_cons_succ]
    refine wpAnyH_take (i := 4) (oi := _) (v := ?_) (by simp only [List.getElem?_toArray, List.getElem?_cons_succ, List.getElem?_cons_zero]; rfl) (by kernel_rfl) (by kernel_rfl) (by kernel_rfl) (fun _ _ _ h => h) (Or.inl ⟨by rfl, ?_⟩) (by assumption) ?_
    rotate_left
    · ((intro w hSw; (try dsimp only at hSw); go_simp) <;> with_reducible rfl)
    try simp only [Act.put, List.setIfInBounds_toArray, List.set_cons_zero, List.set_cons_succ]
    refine wpAnyH_take (i := 6) (oi := _) (v := ?_) (by simp only [List.getElem?_toArray, List.getElem?_cons_succ, List.getElem?_cons_zero]; rfl) (by kernel_rfl) (by kernel_rfl) (by kernel_rfl) (fun _ _ _ h => h) (Or.inl ⟨by rfl, ?_⟩) (by assumption) ?_
    rotate_left
    · ((intro w hSw; (try dsimp only at hSw); go_simp) <;> with_reducible rfl)
    try simp only [Act.put, List.setIfInBounds_toArray, List.set_cons_zero, List.set_cons_succ]
    refine wpAnyH_take (i := 7) (oi := _) (v := ?_) (by simp only [List.getElem?_toArray, List.getElem?_cons_succ, List.getElem?_cons_zero]; rfl) (by kernel_rfl) (by kernel_rfl) (by kernel_rfl) (fun _ _ _ h => h) (Or.inl ⟨by rfl, ?_⟩) (by assumption) ?_
    rotate_left
    · ((intro w hSw; (try dsimp only at hSw); go_simp) <;> with_reducible rfl)
    try simp only [Act.put, List.setIfInBounds_toArray, List.set_cons_zero, List.set_cons_succ]
    refine wpAnyH_take (i := 8) (oi := _) (v := ?_) (by simp only [List.getElem?_toArray, List.getElem?_cons_succ, List.getElem?_cons_zero]; rfl) (by kernel_rfl) (by kernel_rfl) (by kernel_rfl) (fun _ _ _ h => h) (Or.inl ⟨by rfl, ?_⟩) (by assumption) ?_
    rotate_left
    · ((intro w hSw; (try dsimp only at hSw); go_simp) <;> with_reducible rfl)
    try simp only [Act.put, List.setIfInBounds_toArray, List.set_cons_zero, List.set_cons_succ]
    refine wpAnyH_take (i := 9) (oi := _) (v := ?_) (by simp only [List.getElem?_toArray, List.getElem?_cons_succ, List.getElem?_cons_zero]; rfl) (by kernel_rfl) (by kernel_rfl) (by kernel_rfl) (fun _ _ _ h => h) (Or.inl ⟨by rfl, ?_⟩) (by assumption) ?_
    rotate_left
    · ((intro w hSw; (try dsimp only at hSw); go_simp) <;> with_reducible rfl)
    try simp only [Act.put, List.setIfInBounds_toArray, List.set_cons_zero, List.set_cons_succ]
    refine wpAnyH_take (i := 10) (oi := _) (v := ?_) (by simp only [List.getElem?_toArray, List.getElem?_cons_succ, List.getElem?_cons_zero]; rfl) (by kernel_rfl) (by kernel_rfl) (by kernel_rfl) (fun _ _ _ h => h) (Or.inl ⟨by rfl, ?_⟩) (by assumption) ?_
    rotate_left
    · ((intro w hSw; (try dsimp only at hSw); go_simp) <;> with_reducible rfl)
    try simp only [Act.put, List.setIfInBounds_toArray, List.set_cons_zero, List.set_cons_succ]
    refine wpAnyH_take (i := 11) (oi := _) (v := ?_) (by simp only [List.getElem?_toArray, List.getElem?_cons_succ, List.getElem?_cons_zero]; rfl) (by kernel_rfl) (by kernel_rfl) (by kernel_rfl) (fun _ _ _ h => h) (Or.inl ⟨by rfl, ?_⟩) (by assumption) ?_
    rotate_left
    · ((intro w hSw; (try dsimp only at hSw); go_simp) <;> with_reducible rfl)
    try simp only [Act.put, List.setIfInBounds_toArray, List.set_cons_zero, List.set_cons_succ]
    refine wpAnyH_ready (rs := [5, 12]) (by kernel_rfl) (by simp) ?_
    refine AllReadyH.cons (o := _) (by simp only [List.getElem?_toArray, List.getElem?_cons_succ, List.getElem?_cons_zero]; rfl) (fun K hK => ?_) ?_
    · go_simp
      refine hK.out _ _ ?_ (fun hHeld2 => ?_)
      · (try dsimp only); go_keep
      clear hHeld hK K
      have hHeld := hHeld2
      clear hHeld2
      try simp only [Act.put, List.setIfInBounds_toArray, List.set_cons_zero, List.set_cons_succ]
      refine wpAnyH_ready (rs := [12]) (by kernel_rfl) (by simp) ?_
      refine AllReadyH.cons (o := _) (by simp only [List.getElem?_toArray, List.getElem?_cons_succ, List.getElem?_cons_zero]; rfl) (fun K hK => ?_) ?_
      · go_simp
        refine hK.out _ _ ?_ (fun hHeld2 => ?_)
        · (try dsimp only); go_keep
        clear hHeld hK K
        have hHeld := hHeld2
        clear hHeld2
        try simp only [Act.put, List.setIfInBounds_toArray, List.set_cons_zero, List.set_cons_succ]
        refine wpAnyH_ready (rs := [13]) (by kernel_rfl) (by simp) ?_
        refine AllReadyH.cons (o := _) (by simp only [List.getElem?_toArray, List.getElem?_cons_succ, List.getElem?_cons_zero]; rfl) (fun K hK => ?_) ?_
        · refine step_append_lies _ rfl _ _ 27 rfl wa.heap.size 29 i0 _ 3 32 under_spans hi hz0 hz1 hz2 rfl (by decide) (.slice sa s.length sc) s.length (s.flatMap spV) rfl (ownsRow_bel HO.out HB.out) ⟨w1.heap.size, 0, none⟩ 1 1 [.string k, .int .i64 d, .int .i64 d] rfl rfl (World.news_of_block (heap_alloc_new w1.drew (.cells #[.string k, .int .i64 d, .int .i64 d] 29))) (fun u hu => by simp at hu; rcases hu with rfl | rfl | rfl <;> rfl) (by decide) (by unfold maxLen; omega) (by omega) (by simp; omega) _ rfl ?_
          intro g4 cap4 w4 hown4 hgrow4 hat4 hlt4
          have c4_0 : ∀ j, w4.cell? ⟨w.heap.size, j, none⟩ = (w1.drew.alloc (.cells #[.string k, .int .i64 d, .int .i64 d] 29)).cell? ⟨w.heap.size, j, none⟩ := fun j => World.cell?_of_block (hgrow4.block w.heap.size (by simp; omega) (fun e => HN.out.1 e.symm))
          have c4_1 : ∀ j, w4.cell? ⟨ob, j, none⟩ = (w1.drew.alloc (.cells #[.string k, .int .i64 d, .int .i64 d] 29)).cell? ⟨ob, j, none⟩ := fun j => World.cell?_of_block (hgrow4.block ob (by simp; omega) (fun e => HN.out.2 e.symm))
          have f4_1 : ∀ j, w4.frozen? ⟨ob, j, none⟩ = (w1.drew.alloc (.cells #[.string k, .int .i64 d, .int .i64 d] 29)).frozen? ⟨ob, j, none⟩ := fun j => World.frozen?_of_block (hgrow4.block ob (by simp; omega) (fun e => HN.out.2 e.symm))
          have HG := hide (show _ ∧ _ from ⟨hown4, hgrow4⟩)
          clear hown4 hgrow4 hat4
          refine hK.out _ _ ?_ (fun hHeld2 => ?_)
          · (try dsimp only); go_keep
          clear hHeld hK K
          have hHeld := hHeld2
          clear hHeld2
          try simp only [Act.put, List.setIfInBounds_toArray, List.set_cons_zero, List.set_cons_succ]
          refine wpAnyH_take (i := 14) (oi := _) (v := ?_) (by simp only [List.getElem?_toArray, List.getElem?_cons_succ, List.getElem?_cons_zero]; rfl) (by kernel_rfl) (by kernel_rfl) (by kernel_rfl) (fun _ _ _ h => h) (Or.inl ⟨by rfl, ?_⟩) (by assumption) ?_
          rotate_left
          · ((intro w hSw; (try dsimp only at hSw); go_simp) <;> with_reducible rfl)
          try simp only [Act.put, List.setIfInBounds_toArray, List.set_cons_zero, List.set_cons_succ]
          refine wpAnyH_ready (rs := [15]) (by kernel_rfl) (by simp) ?_
          refine AllReadyH.cons (o := _) (by simp only [List.getElem?_toArray, List.getElem?_cons_succ, List.getElem?_cons_zero]; rfl) (fun K hK => ?_) ?_
          · go_simp
            refine hK.out _ _ ?_ (fun hHeld2 => ?_)
            · (try dsimp only); go_keep
            clear hHeld hK K
            have hHeld := hHeld2
            clear hHeld2
            try simp only [Act.put, List.setIfInBounds_toArray, List.set_cons_zero, List.set_cons_succ]
            refine wpAnyH_done (by kernel_rfl) ?_ _
            refine NoPanic.normal ?_
            go_wp2_with fail
            go_ret
            obtain ⟨hown4, hgrow4⟩ := HG.out
            exact ⟨rfl, KeptV.snoc (x := (k, d, d)) hob hl hfr hbut hsv HO.out HB.out hown4 hgrow4⟩
          exact AllReadyH.nil
        exact AllReadyH.nil
      exact AllReadyH.nil
    refine AllReadyH.cons (o := _) (by simp only [List.getElem?_toArray, List.getElem?_cons_succ, List.getElem?_cons_zero]; rfl) (fun K hK => ?_) ?_
    · go_simp
      refine hK.out _ _ ?_ (fun hHeld2 => ?_)
      · (try dsimp only); go_keep
      clear hHeld hK K
      have hHeld := hHeld2
      clear hHeld2
      try simp only [Act.put, List.setIfInBounds_toArray, List.set_cons_zero, List.set_cons_succ]
      refine wpAnyH_ready (rs := [5]) (by kernel_rfl) (by simp) ?_
      refine AllReadyH.cons (o := _) (by simp only [List.getElem?_toArray, List.getElem?_cons_succ, List.getElem?_cons_zero]; rfl) (fun K hK => ?_) ?_
      · go_simp
        refine hK.out _ _ ?_ (fun hHeld2 => ?_)
        · (try dsimp only); go_keep
        clear hHeld hK K
        have hHeld := hHeld2
        clear hHeld2
        try simp only [Act.put, List.setIfInBounds_toArray, List.set_cons_zero, List.set_cons_succ]
        refine wpAnyH_ready (rs := [13]) (by kernel_rfl) (by simp) ?_
        refine AllReadyH.cons (o := _) (by simp only [List.getElem?_toArray, List.getElem?_cons_succ, List.getElem?_cons_zero]; rfl) (fun K hK => ?_) ?_
        · refine step_append_lies _ rfl _ _ 27 rfl wa.heap.size 29 i0 _ 3 32 under_spans hi hz0 hz1 hz2 rfl (by decide) (.slice sa s.length sc) s.length (s.flatMap spV) rfl (ownsRow_bel HO.out HB.out) ⟨w1.heap.size, 0, none⟩ 1 1 [.string k, .int .i64 d, .int .i64 d] rfl rfl (World.news_of_block (heap_alloc_new w1.drew (.cells #[.string k, .int .i64 d, .int .i64 d] 29))) (fun u hu => by simp at hu; rcases hu with rfl | rfl | rfl <;> rfl) (by decide) (by unfold maxLen; omega) (by omega) (by simp; omega) _ rfl ?_
          intro g4 cap4 w4 hown4 hgrow4 hat4 hlt4
          have c4_0 : ∀ j, w4.cell? ⟨w.heap.size, j, none⟩ = (w1.drew.alloc (.cells #[.string k, .int .i64 d, .int .i64 d] 29)).cell? ⟨w.heap.size, j, none⟩ := fun j => World.cell?_of_block (hgrow4.block w.heap.size (by simp; omega) (fun e => HN.out.1 e.symm))
          have c4_1 : ∀ j, w4.cell? ⟨ob, j, none⟩ = (w1.drew.alloc (.cells #[.string k, .int .i64 d, .int .i64 d] 29)).cell? ⟨ob, j, none⟩ := fun j => World.cell?_of_block (hgrow4.block ob (by simp; omega) (fun e => HN.out.2 e.symm))
          have f4_1 : ∀ j, w4.frozen? ⟨ob, j, none⟩ = (w1.drew.alloc (.cells #[.string k, .int .i64 d, .int .i64 d] 29)).frozen? ⟨ob, j, none⟩ := fun j => World.frozen?_of_block (hgrow4.block ob (by simp; omega) (fun e => HN.out.2 e.symm))
          have HG := hide (show _ ∧ _ from ⟨hown4, hgrow4⟩)
          clear hown4 hgrow4 hat4
          refine hK.out _ _ ?_ (fun hHeld2 => ?_)
          · (try dsimp only); go_keep
          clear hHeld hK K
          have hHeld := hHeld2
          clear hHeld2
          try simp only [Act.put, List.setIfInBounds_toArray, List.set_cons_zero, List.set_cons_succ]
          refine wpAnyH_take (i := 14) (oi := _) (v := ?_) (by simp only [List.getElem?_toArray, List.getElem?_cons_succ, List.getElem?_cons_zero]; rfl) (by kernel_rfl) (by kernel_rfl) (by kernel_rfl) (fun _ _ _ h => h) (Or.inl ⟨by rfl, ?_⟩) (by assumption) ?_
          rotate_left
          · ((intro w hSw; (try dsimp only at hSw); go_simp) <;> with_reducible rfl)
          try simp only [Act.put, List.setIfInBounds_toArray, List.set_cons_zero, List.set_cons_succ]
          refine wpAnyH_ready (rs := [15]) (by kernel_rfl) (by simp) ?_
          refine AllReadyH.cons (o := _) (by simp only [List.getElem?_toArray, List.getElem?_cons_succ, List.getElem?_cons_zero]; rfl) (fun K hK => ?_) ?_
          · go_simp
            refine hK.out _ _ ?_ (fun hHeld2 => ?_)
            · (try dsimp only); go_keep
            clear hHeld hK K
            have hHeld := hHeld2
            clear hHeld2
            try simp only [Act.put, List.setIfInBounds_toArray, List.set_cons_zero, List.set_cons_succ]
            refine wpAnyH_done (by kernel_rfl) ?_ _
            refine NoPanic.normal ?_
            go_wp2_with fail
            go_ret
            obtain ⟨hown4, hgrow4⟩ := HG.out
            exact ⟨rfl, KeptV.snoc (x := (k, d, d)) hob hl hfr hbut hsv HO.out HB.out hown4 hgrow4⟩
          exact AllReadyH.nil
        exact AllReadyH.nil
      exact AllReadyH.nil
    exact AllReadyH.nil)

/-- Visit of impl.visitor is as asked. -/
theorem goodV (stop : ByteArray) (ob : Nat) (wa : World) (lo hi : Nat) (hob : ob < wa.heap.size) (hob0 : 0 < ob) (hlo : ob < lo) (hhi : hi ≤ wa.heap.size) (htok : TokTab wa) :
    GoodG (visW stop ob) (In lo hi) wa 47 119 (xvV stop ob) okV (fun _ => KeptV ob wa) := by
  have hmid : ∀ b s w, KeptV ob wa b s w → Mid (In lo hi) wa w := fun b s w h k hk => h.2.2.1.block k (by have := hk.2; omega) (fun e => by injection e with e; have := hk.1; omega)
  have htk : ∀ b s w, KeptV ob wa b s w → TokTab w := fun b s w h t ht => (World.cell?_of_block (h.2.2.1.block 0 (by omega) (fun e => by injection e; omega))).trans (htok t ht)
  have hsz : ∀ b s w, KeptV ob wa b s w → wa.heap.size ≤ w.heap.size := fun b s w h => h.2.2.1.le
  refine ⟨fun _ _ _ => by kernel_rfl, fun _ _ => by kernel_rfl, fun _ => hmid, fun _ b s w h => ⟨by have := h.1; omega, h.2⟩, fun b t h => by unfold okV at h ⊢; omega, ?_, ?_⟩
  · intro b t s w a node hok hR ha hg
    have hS : ∀ k, In lo hi k → k < w.heap.size := fun k hk => by have := hsz _ _ _ hR; have := hk.2; omega
    have haw : At (In lo hi) w a node := ha.stay (fun _ h => h) (hmid _ _ _ hR)
    have h0 : 0 < w.heap.size := by have := hsz _ _ _ hR; omega
    refine (visit_any stop ob wa hob hob0 a.kind t node b s w hok hR fun W hb => kindOf_any a hg (haw.stay (fun _ h => h) (hb.mid hS)) (fun k hk => Nat.lt_of_lt_of_le (hS k hk) hb.le) ((htk _ _ _ hR).bel h0 hb) (Nat.lt_of_lt_of_le h0 hb.le)).mono ?_
    rintro e w' ⟨rfl, hR'⟩
    unfold VisPost
    simp only [visW, visV]
    by_cases hk : a.kind = stop
    · simp only [hk, if_true]
      simp only [hk] at hR'
      exact ⟨trivial, hR'⟩
    · simp only [hk, if_false]
      exact ⟨trivial, by unfold okV at hok ⊢; omega, hR'⟩
  · intro b t t0 k0 s0 s w _ hok hR
    refine (visit_any stop ob wa hob hob0 ⟨#[]⟩ t .nilIface b s w hok hR fun W hb => (kindOf_nil W).mono ?_).mono ?_
    · rintro e w' ⟨rfl, rfl⟩
      exact ⟨rfl, Bel.refl _⟩
    · rintro e w' ⟨rfl, hR'⟩
      exact ⟨_, rfl, hR'⟩
end Go.Proofs.YtkkgfgllfbahlaaGreatFmt

namespace Go.Proofs.YtkkgfgllfbahlaaGreatFmt
open Go Go.RowKit
set_option linter.unusedSimpArgs false

/-- A row of spans in new blocks. -/
def SpPost (L : List Sp) (w : World) (e : Ending) (w' : World) : Prop := ∃ a c, e = .returned (.slice a L.length c) ∧ w'.ownsRow w.heap.size 29 3 (.slice a L.length c) L.length (L.flatMap spV) ∧ Bel w w'

set_option maxRecDepth 100000 in
set_option maxHeartbeats 4000000 in
theorem visits_impl (n : Nd) (hs : shS n = true) (hm : n.nodes ≤ 400) (stop : ByteArray) (kv : Value) (w : World) (hn : NdK w.heap.size w n kv) (htok : TokTab w) (h0 : 0 < w.heap.size) :
    Calls Tryz.prog 12 #[nodeV n kv, .string stop] w (SpPost (visX stop (xtN n) 0) w) := by
  have hg := bS_good n.nodes n [] (Nat.le_refl _) hm hs
  have hx := bS_xt n.nodes n [] (Nat.le_refl _) hs
  have hsz := (xt_size n).1
  have hxv : walkX (visW stop (w.heap.size + 1)) (xtN n) (0 : Int) ([] : List Sp) = visX stop (xtN n) 0 := by
    have := visV_walk (fun d => .iface 47 (xvV stop (w.heap.size + 1) d)) stop (xtN n) 0 []
    simpa [visW] using this
  obtain ⟨a, cap, hv, -, -⟩ := hn.slice
  subst hv
  have hb : Bel w (((w.alloc (.cells #[.string n.kind, .string n.text, .slice a n.kids.length cap] 24)).alloc (.cells #[.slice none 0 0] 27))) := (by repeat (first | exact Bel.refl _ | assumption | refine Bel.alloc ?_ _ | refine Bel.drew ?_ | refine Bel.set ?_ (by first | exact Nat.le_refl _ | (simp; done) | (simp; omega)) _))
  have HB := hide (build_b n hs hm (.slice a n.kids.length cap) ((w.alloc (.cells #[.string n.kind, .string n.text, .slice a n.kids.length cap] 24)).alloc (.cells #[.slice none 0 0] 27))
    (hn.later hb) (htok.bel h0 hb) (by simp) [] (.slice none 0 0) (.inl ⟨rfl, rfl⟩))
  clear hn
  unfold nodeV at HB ⊢
  go_enter Tryz.func12, Tryz.ntmps12
  go_wp2_with fail
  with_reducible refine Calls.mono HB.out ?_
  rintro e w1 ⟨node, rfl, ha, hT1⟩
  have hw1 : Bel w w1 := Bel.trans hb hT1
  have z1 := hT1.le
  simp only [World.size_alloc] at z1 ha
  have c1 := hT1.at (b := w.heap.size + 1) (by simp)
  have f1 := hT1.atf (b := w.heap.size + 1) (by simp)
  have G := goodV stop (w.heap.size + 1) w1 (w.heap.size + 1 + 1) w1.heap.size (by omega) (by omega) (by omega) (Nat.le_refl _) (htok.bel h0 hw1)
  have hW := walk_any G hg.2 ha
  rw [hx] at hW
  have hc : w1.cell? ⟨w.heap.size + 1, 0, none⟩ = some (.slice none 0 0) := by rw [c1]; simp [go_sem]
  have hf : w1.frozen? ⟨w.heap.size + 1, 0, none⟩ = false := by rw [f1]; simp [go_sem]
  have hW0 := (hW 0 (0 : Int) ([] : List Sp) w1 (show okV _ _ by unfold okV; omega) ⟨by simp; omega, hf, But.refl _ _, _, hc, by simpa using World.ownsRow_nil _ _ _ _⟩)
  unfold xvV at hW0
  have HW := hide hW0
  clear hW hW0 G ha hb
  go_wp2_with fail
  with_reducible refine Calls.mono HW.out ?_
  rintro e w2 ⟨r2, rfl, hR2⟩
  rw [hxv] at hR2
  obtain ⟨hl, hfr, hbut, sv, hsv, hown⟩ := hR2
  obtain ⟨sa, sc, rfl⟩ := own_slice hown
  have HO := hide hown
  clear hown
  go_wp2_with fail
  go_ret
  exact ⟨_, _, rfl, ownsRow_base HO.out (by omega), hbut.bel hw1 (by omega)⟩
end Go.Proofs.YtkkgfgllfbahlaaGreatFmt
