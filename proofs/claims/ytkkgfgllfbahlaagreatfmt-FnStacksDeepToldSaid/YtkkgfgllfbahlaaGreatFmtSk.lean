/- impl.Stacks: what its closure keeps.
ast.PreorderStack over the closure of impl.Stacks; impl.Stacks answers stX.
ast.PreorderStack's closure, walked; PreorderStack; impl.Stacks answers stX.
ast.PreorderStack with the closure of impl.Stacks; impl.Stacks answers stX. -/
import Derived.Test.YtkkgfgllfbahlaaGreatFmtIn
import Derived.Test.YtkkgfgllfbahlaaGreatFmtPl
import Derived.Deep.RegionHeld3
import Derived.RangeFuncBox
import Derived.Test.YtkkgfgllfbahlaaGreatFmtBU
set_option linter.unusedVariables false
set_option linter.unusedSimpArgs false
namespace Go.Proofs.YtkkgfgllfbahlaaGreatFmt
open Go Go.RowKit
set_option linter.unusedSimpArgs false

theorem info_strs : (Tryz.prog.info? 34).map (fun i => (i.zero, i.size, i.bytes)) = some (some (.slice none 0 0), 1, 24) := by kernel_rfl
theorem under_rows : Tryz.prog.underlying 41 = some (.slice 34) := by kernel_rfl
theorem own_type {w : World} {base e size n : Nat} {v : Value} {xs : List Value} (h : w.ownsRow base e size v n xs) {g : Nat} (hg : v.ownBlock = some g) : ∃ cur, w.heap[g]? = some (.cells cur e (0, 0)) := by
  rcases h.2 with ⟨rfl, _⟩ | ⟨g', cap, cur, rfl, _, hh, _⟩
  · simp [Value.ownBlock] at hg
  · have : g' = g := by simpa [Value.ownBlock] using hg
    subst this
    exact ⟨cur, hh⟩
theorem own_base {w : World} {base e size n : Nat} {v : Value} {xs : List Value} (h : w.ownsRow base e size v n xs) {g : Nat} (hg : v.ownBlock = some g) : base ≤ g := (h.lt g hg).1
theorem own_ne {w : World} {b1 e1 s1 n1 b2 e2 s2 n2 : Nat} {v1 v2 : Value} {x1 x2 : List Value} (h1 : w.ownsRow b1 e1 s1 v1 n1 x1) (h2 : w.ownsRow b2 e2 s2 v2 n2 x2) (he : e1 ≠ e2) : ∀ g, v1.ownBlock = some g → v2.ownBlock ≠ some g := by
  intro g hg hg2
  obtain ⟨c1, q1⟩ := own_type h1 hg
  obtain ⟨c2, q2⟩ := own_type h2 hg2
  rw [q1] at q2
  injection q2 with q2
  injection q2 with _ q2
  exact he q2
theorem own_keep {w w' : World} {base e size n : Nat} {v : Value} {xs : List Value} (h : w.ownsRow base e size v n xs) {row : Option Nat} (hg : w.grownBy w' row) (hr : ∀ g, v.ownBlock = some g → row ≠ some g) : w'.ownsRow base e size v n xs := by
  refine h.kept hg ?_
  cases hv : v.ownBlock with
  | none => exact .inl rfl
  | some g => exact .inr (fun e => hr g hv e.symm)
/-- Rows of texts, each in a block of its own behind B. -/
def RowsAt (B : Nat) (w : World) (rows : List (List ByteArray)) (vals : List Value) : Prop := rows.length = vals.length ∧ ∀ (i : Nat) (r : List ByteArray) (v : Value), rows[i]? = some r → vals[i]? = some v → 0 < r.length ∧ r.length ≤ 4000 ∧ w.ownsRow B 9 1 v r.length (strs r)
theorem RowsAt.keep {B : Nat} {w w' : World} {rows : List (List ByteArray)} {vals : List Value} (h : RowsAt B w rows vals) {row : Option Nat} (hg : w.grownBy w' row) (hr : ∀ g, row = some g → g < B ∨ ∃ cur e, w.heap[g]? = some (.cells cur e (0, 0)) ∧ e ≠ 9) : RowsAt B w' rows vals := by
  refine ⟨h.1, fun i r v hi hv => ?_⟩
  obtain ⟨h1, h2, h3⟩ := h.2 i r v hi hv
  refine ⟨h1, h2, own_keep h3 hg fun g hg1 hg2 => ?_⟩
  rcases hr g hg2 with h4 | ⟨cur, e, h4, h5⟩
  · have := own_base h3 hg1; omega
  · obtain ⟨c1, q1⟩ := own_type h3 hg1
    rw [h4] at q1
    injection q1 with q1
    injection q1 with _ q1
    exact h5 q1
theorem RowsAt.snoc {B : Nat} {w : World} {rows : List (List ByteArray)} {vals : List Value} {r : List ByteArray} {v : Value} (h : RowsAt B w rows vals) (h1 : 0 < r.length) (h2 : r.length ≤ 4000) (h3 : w.ownsRow B 9 1 v r.length (strs r)) : RowsAt B w (rows ++ [r]) (vals ++ [v]) := by
  refine ⟨by simp [h.1], fun i r' v' hi hv => ?_⟩
  rcases Nat.lt_or_ge i rows.length with hlt | hge
  · rw [List.getElem?_append_left hlt] at hi
    rw [List.getElem?_append_left (by rw [← h.1]; exact hlt)] at hv
    exact h.2 i r' v' hi hv
  · rw [List.getElem?_append_right hge] at hi
    rw [List.getElem?_append_right (by rw [← h.1]; exact hge), ← h.1] at hv
    cases hq : i - rows.length with
    | zero => rw [hq] at hi hv; simp at hi hv; subst hi hv; exact ⟨h1, h2, h3⟩
    | succ q => rw [hq] at hi; simp at hi
theorem strs_snoc (t : List ByteArray) (k : ByteArray) : strs (t ++ [k]) = strs t ++ [.string k] := by simp [strs]
theorem cellsOf_row {w : World} {base e n g cap : Nat} {xs : List Value} (h : w.ownsRow base e 1 (.slice (some ⟨g, 0, none⟩) n cap) n xs) (i : Nat) (v : Value) (hv : xs[i]? = some v) : w.cell? ⟨g, i, none⟩ = some v := by
  have hlt : i < xs.length := (List.getElem?_eq_some_iff.1 hv).1
  have hn : 0 < n := by have := h.1; omega
  obtain ⟨g', cap', hq, -, hnews⟩ := row_news h hn
  injection hq with q1 _ _
  injection q1 with q1
  injection q1 with q1
  subst q1
  have hadd : (⟨g, 0, none⟩ : Addr).add i = ⟨g, 0 + i, none⟩ := by unfold Addr.add; split <;> simp_all
  have := hnews i v hv
  rw [hadd, Nat.zero_add] at this
  exact this

/-- An append of a text, at a step of a region that draws. -/
theorem step_str {w : World} {ops : Array Oper} {o : Oper} {a : Act} {K : Act → World → Prop} {Q : Exit → Act → World → Prop} {E : Prop} (hgd : o.guard = none) (s x : Operand)
    (ho : o.op = .call { callee := .builtin .append, args := #[s, x], argTypes := #[34, 34] }) (base : Nat) (v : Value) (n : Nat) (xs : List Value) (hs : a.eval s = v) (hown : w.ownsRow base 9 1 v n xs)
    (g0 : Nat) (k : ByteArray) (hx : a.eval x = .slice (some ⟨g0, 0, none⟩) 1 1) (hnew : w.heap[g0]? = some (.cells #[.string k] 9)) (hn : n < 4000) (hbase : base ≤ w.heap.size)
    (h : ∀ g cap w', w'.ownsRow base 9 1 (.slice (some ⟨g, 0, none⟩) (n + 1) cap) (n + 1) (xs ++ [.string k]) → w.grownBy w' v.ownBlock → g < w'.heap.size → K (a.put o.dst (.slice (some ⟨g, 0, none⟩) (n + 1) cap)) w') :
    if Region.wanted o (yielded ops a.tmps) = true then Oper.wp Tryz.prog o a w K Q else E := by
  obtain ⟨i0, hi, hz0, hz1, hz2⟩ := info_parts info_str
  exact step_append_lies _ hgd _ _ 34 ho base 9 i0 _ 1 16 under_strs hi hz0 hz1 hz2 rfl (by decide) v n xs hs hown ⟨g0, 0, none⟩ 1 1 [.string k] hx rfl (World.news_of_block hnew) (fun u hu => by simp at hu; rcases hu with rfl; rfl) (by decide) (by unfold maxLen; omega) (by omega) hbase _ rfl
    fun g cap w' h1 h2 _ h4 => h g cap w' h1 h2 h4
/-- An append of a row, at a step of a region that draws. -/
theorem step_row {w : World} {ops : Array Oper} {o : Oper} {a : Act} {K : Act → World → Prop} {Q : Exit → Act → World → Prop} {E : Prop} (hgd : o.guard = none) (s x : Operand)
    (ho : o.op = .call { callee := .builtin .append, args := #[s, x], argTypes := #[41, 41] }) (base : Nat) (v : Value) (n : Nat) (xs : List Value) (hs : a.eval s = v) (hown : w.ownsRow base 34 1 v n xs)
    (g0 : Nat) (ra : Option Addr) (rn rc : Nat) (hx : a.eval x = .slice (some ⟨g0, 0, none⟩) 1 1) (hnew : w.heap[g0]? = some (.cells #[.slice ra rn rc] 34)) (hn : n < 4000) (hbase : base ≤ w.heap.size)
    (h : ∀ g cap w', w'.ownsRow base 34 1 (.slice (some ⟨g, 0, none⟩) (n + 1) cap) (n + 1) (xs ++ [.slice ra rn rc]) → w.grownBy w' v.ownBlock → g < w'.heap.size → K (a.put o.dst (.slice (some ⟨g, 0, none⟩) (n + 1) cap)) w') :
    if Region.wanted o (yielded ops a.tmps) = true then Oper.wp Tryz.prog o a w K Q else E := by
  obtain ⟨i0, hi, hz0, hz1, hz2⟩ := info_parts info_strs
  exact step_append_lies _ hgd _ _ 41 ho base 34 i0 _ 1 24 under_rows hi hz0 hz1 hz2 rfl (by decide) v n xs hs hown ⟨g0, 0, none⟩ 1 1 [.slice ra rn rc] hx rfl (World.news_of_block hnew) (fun u hu => by simp at hu; rcases hu with rfl; rfl) (by decide) (by unfold maxLen; omega) (by omega) hbase _ rfl
    fun g cap w' h1 h2 _ h4 => h g cap w' h1 h2 h4
theorem Bel.factz {w w1 : World} (h : Bel w w1) {b : Nat} (hb : b < w.heap.size) : w.heap.size ≤ w1.heap.size ∧ (∀ j, w1.cell? ⟨b, j, none⟩ = w.cell? ⟨b, j, none⟩) ∧ (∀ j, w1.frozen? ⟨b, j, none⟩ = w.frozen? ⟨b, j, none⟩) ∧ b < w1.heap.size ∧ ¬ b = w1.heap.size ∧ ¬ w1.heap.size = b := by
  have := h.le
  exact ⟨this, h.at hb, h.atf hb, by omega, by omega, by omega⟩
theorem stacks_row {B : Nat} {w w6 w7 : World} {t : List ByteArray} {k : ByteArray} {row ov : Value} {m : Nat} {vals : List Value} {o : Obj} (h6 : w6.ownsRow w.heap.size 9 1 row (t.length + 1) (strs t ++ [.string k])) (hO : (w6.alloc o).ownsRow B 34 1 ov m vals) (hg : (w6.alloc o).grownBy w7 ov.ownBlock) (hB : B ≤ w.heap.size) :
    w7.ownsRow B 9 1 row (t ++ [k]).length (strs (t ++ [k])) := by
  have h7 := ownsRow_bel h6 (show Bel w6 (w6.alloc o) from (Bel.refl _).alloc _)
  rw [strs_snoc, List.length_append]
  exact ownsRow_base (own_keep h7 hg fun g hg1 hg2 => own_ne h7 hO (by decide) g hg1 hg2) hB

set_option maxRecDepth 100000 in
set_option maxHeartbeats 8000000 in
theorem stacks_closure (stop : ByteArray) (ob sb B : Nat) (k : ByteArray) (node : Value) (t : List ByteArray) (vs vals : List Value) (ov kv : Value) (m : Nat) (w : World)
    (hobB : ob < B) (hsbB : sb < B) (hne : ¬ sb = ob) (hB : B ≤ w.heap.size) (hst : w.cell? ⟨sb, 0, none⟩ = some (.string stop)) (hfr : w.frozen? ⟨ob, 0, none⟩ = false) (hsv : w.cell? ⟨ob, 0, none⟩ = some ov)
    (hown : w.ownsRow B 34 1 ov m vals) (hstk : w.ownsRow B 54 1 kv t.length vs) (hm : m < 4000) (htl : t.length < 4000)
    (hK : ∀ W, Bel w W → Calls Tryz.prog 30 #[node] W fun e w' => e = .returned (.string k) ∧ Bel W w')
    (hKs : ∀ (i : Nat) (v : Value) (q : ByteArray), vs[i]? = some v → t[i]? = some q → ∃ ty p, v = .iface ty (.pointer (some ⟨p, 0, none⟩)) ∧ ∀ W, Bel w W → Calls Tryz.prog 30 #[v] W fun e w' => e = .returned (.string q) ∧ Bel W w') :
    Calls Tryz.prog 33 #[node, kv, .pointer (some ⟨ob, 0, none⟩), .pointer (some ⟨sb, 0, none⟩)] w fun e w' => e = .returned (.bool (!(k.toList == stop.toList))) ∧
      ∃ WB w4 g cap row, Bel w WB ∧ WB.grownBy w4 ov.ownBlock ∧ w' = w4.setCell ⟨ob, 0, none⟩ (.slice (some ⟨g, 0, none⟩) (m + 1) cap) ∧ w4.ownsRow B 34 1 (.slice (some ⟨g, 0, none⟩) (m + 1) cap) (m + 1) (vals ++ [row]) ∧
        w4.ownsRow B 9 1 row (t ++ [k]).length (strs (t ++ [k])) := by
  obtain ⟨i0, hi, hz0, hz1, hz2⟩ := info_parts info_str
  obtain ⟨i1, hi', hz0', hz1', hz2'⟩ := info_parts info_strs
  obtain ⟨sa, sc, rfl⟩ := own_slice hown
  obtain ⟨ka, kc, rfl⟩ := own_slice hstk
  have hobw : ob < w.heap.size := by omega
  have hsbw : sb < w.heap.size := by omega
  have hne2 : ¬ ob = sb := fun e => hne e.symm
  have HK := hide hK
  have HKS := hide hKs
  have HO := hide hown
  have HS := hide hstk
  clear hK hKs hown hstk
  go_enter Tryz.func33, Tryz.ntmps33
  go_wp2_with fail
  go_loopw [7, 13] (fun r c wr => ∃ i : Nat, i ≤ t.length ∧ c = .int .i64 i ∧ wr.ownsRow w.heap.size 9 1 r i (strs (t.take i)) ∧ Bel w wr) (fun _ c _ => t.length - (intOf c).toNat)
  case atStart => exact ⟨0, Nat.zero_le _, rfl, by simpa [strs] using World.ownsRow_nil _ _ _ _, Bel.refl _⟩
  case round =>
    obtain ⟨i, hin, rfl, hrow, hbr⟩ := hrel
    obtain ⟨ra, rc, rfl⟩ := own_slice hrow
    have zr := hbr.le
    by_cases hlt : i < t.length
    · obtain ⟨g, cap, hv, hl, -⟩ := row_news HS.out (by omega)
      injection hv with hv1 _ hv3
      subst hv1 hv3
      obtain ⟨v, hvi⟩ : ∃ v, vs[i]? = some v := ⟨vs[i]'(by omega), by simp⟩
      obtain ⟨q, hqi⟩ : ∃ q, t[i]? = some q := ⟨t[i], by simp⟩
      obtain ⟨ty, p, rfl, hX⟩ := HKS.out i v q hvi hqi
      have s0 := (hbr.at (World.block_lt_of_cell? w ⟨g, i, none⟩ (cellsOf_row HS.out i _ hvi)) i).trans (cellsOf_row HS.out i _ hvi)
      have htk : t.take (i + 1) = t.take i ++ [q] := by
        obtain ⟨hi2, he⟩ := List.getElem?_eq_some_iff.1 hqi
        rw [List.take_succ_eq_append_getElem hi2, he]
      have HT := hide htk
      have HX := hide hX
      have HR := hide hrow
      have HC := hide (HS.out.2)
      have hkc : t.length ≤ kc := by
        rcases HC.out with ⟨h, _⟩ | ⟨_, _, _, hv, _, _, h3, _⟩
        · simp at h
        · injection hv with _ _ hv; subst hv; exact h3
      have hkm : kc ≤ 9223372036854775807 := by
        rcases HC.out with ⟨h, _⟩ | ⟨_, _, _, hv, _, _, _, h4, _⟩
        · simp at h
        · injection hv with _ _ hv; subst hv; exact h4
      clear hvi hqi hX hrow htk HC
      go_wp2_with fail
      with_reducible refine Calls.mono (HX.out _ hbr) ?_
      rintro e w2 ⟨rfl, hT2⟩
      have hw2 : Bel w w2 := hbr.trans hT2
      have z2 := hT2.le
      have HR2 := hide (ownsRow_bel (ownsRow_bel HR.out hT2) (Bel.alloc (Bel.refl _) (.cells #[.string q] 9)))
      go_wp2_with (first
        | (at_builtin
           refine wpList_append_lies _ rfl _ _ 34 rfl w.heap.size 9 i0 _ 1 16 under_strs hi hz0 hz1 hz2 rfl (by decide) (.slice ra i rc) i (strs (t.take i)) rfl HR2.out ⟨w2.heap.size, 0, none⟩ 1 1 [.string q] rfl rfl (World.news_of_block (heap_alloc_new w2 (.cells #[.string q] 9))) (fun u hu => by simp at hu; rcases hu with rfl; rfl) (by decide) (by unfold maxLen; omega) (by omega) (by have := hw2.le; simp; omega) _ rfl ?_
           intro g4 cap4 w4 hown4 hgrow4 hat4 hlt4
           have hb4 : Bel w w4 := (hw2.alloc _).row hgrow4 (fun g hg => (HR.out.lt g hg).1)))
      have HG := hide hown4
      clear hown4 hgrow4 hat4
      go_wp2_with fail
      go_roundw
      case rel => exact ⟨i + 1, hlt, by go_num, by rw [HT.out, strs_snoc]; exact HG.out, hb4⟩
      case measure => simp [intOf]; omega
    · have hie : i = t.length := by omega
      subst hie
      rw [List.take_length] at hrow
      have HR := hide hrow
      clear hrow
      go_wp2_with fail
      with_reducible refine Calls.mono (HK.out _ hbr) ?_
      rintro e w5 ⟨rfl, hT5⟩
      have hw5 : Bel w w5 := hbr.trans hT5
      have z5 := hT5.le
      have c5_1 := hw5.at (b := ob) hobw
      have f5_1 := hw5.atf (b := ob) hobw
      have c5_2 := hw5.at (b := sb) hsbw
      have l5_1 : ob < w5.heap.size := by omega
      have n5_1 : ¬ ob = w5.heap.size := by omega
      have m5_1 : ¬ w5.heap.size = ob := by omega
      have l5_2 : sb < w5.heap.size := by omega
      have n5_2 : ¬ sb = w5.heap.size := by omega
      have m5_2 : ¬ w5.heap.size = sb := by omega
      have HR5 := hide (ownsRow_bel (ownsRow_bel HR.out hT5) (show Bel w5 (w5.drew.alloc (.cells #[.string k] 9)) from (by repeat (first | exact Bel.refl _ | assumption | refine Bel.alloc ?_ _ | refine Bel.drew ?_ | refine Bel.set ?_ (by first | exact Nat.le_refl _ | (simp; done) | (simp; omega)) _))))
      go_wp2_with fail
      have hBk : Bel w (w5.drew.alloc (.cells #[.string k] 9)) := (by repeat (first | exact Bel.refl _ | assumption | refine Bel.alloc ?_ _ | refine Bel.drew ?_ | refine Bel.set ?_ (by first | exact Nat.le_refl _ | (simp; done) | (simp; omega)) _))
      have HN := hide (show (Value.slice sa m sc).ownBlock ≠ some ob ∧ (Value.slice sa m sc).ownBlock ≠ some sb from ⟨fun e => by have := own_base HO.out e; omega, fun e => by have := own_base HO.out e; omega⟩)
      refine wp_region_noPanic ?_
      refine wp_region_held_drew (S := (fun w' => w'.cell? ⟨sb, 0, none⟩ = some (.string stop))) (by kernel_rfl) ?_ (fun hHeld => ?_)
      · (try dsimp only); go_keep
      refine wpAnyH_take (i := 1) (oi := _) (v := ?_) (by simp only [List.getElem?_toArray, List.getElem?_cons_succ, List.getElem?_cons_zero]; rfl) (by kernel_rfl) (by kernel_rfl) (by kernel_rfl) (fun _ _ _ h => h) (Or.inl ⟨by rfl, ?_⟩) (by assumption) ?_
      rotate_left
      · ((intro w hSw; (try dsimp only at hSw); go_simp) <;> with_reducible rfl)
      try simp only [Act.put, List.setIfInBounds_toArray, List.set_cons_zero, List.set_cons_succ]
      refine wpAnyH_take (i := 2) (oi := _) (v := ?_) (by simp only [List.getElem?_toArray, List.getElem?_cons_succ, List.getElem?_cons_zero]; rfl) (by kernel_rfl) (by kernel_rfl) (by kernel_rfl) (fun _ _ _ h => h) (Or.inl ⟨by rfl, ?_⟩) (by assumption) ?_
      rotate_left
      · ((intro w hSw; (try dsimp only at hSw); go_simp) <;> with_reducible rfl)
      try simp only [Act.put, List.setIfInBounds_toArray, List.set_cons_zero, List.set_cons_succ]
      refine wpAnyH_ready (rs := [0, 3]) (by kernel_rfl) (by simp) ?_
      refine AllReadyH.cons (o := _) (by simp only [List.getElem?_toArray, List.getElem?_cons_succ, List.getElem?_cons_zero]; rfl) (fun K hK => ?_) ?_
      · go_simp
        refine hK.out _ _ ?_ (fun hHeld2 => ?_)
        · (try dsimp only); go_keep
        clear hHeld hK K
        have hHeld := hHeld2
        clear hHeld2
        try simp only [Act.put, List.setIfInBounds_toArray, List.set_cons_zero, List.set_cons_succ]
        refine wpAnyH_ready (rs := [3]) (by kernel_rfl) (by simp) ?_
        refine AllReadyH.cons (o := _) (by simp only [List.getElem?_toArray, List.getElem?_cons_succ, List.getElem?_cons_zero]; rfl) (fun K hK => ?_) ?_
        · go_simp
          refine hK.out _ _ ?_ (fun hHeld2 => ?_)
          · (try dsimp only); go_keep
          clear hHeld hK K
          have hHeld := hHeld2
          clear hHeld2
          try simp only [Act.put, List.setIfInBounds_toArray, List.set_cons_zero, List.set_cons_succ]
          refine wpAnyH_ready (rs := [4]) (by kernel_rfl) (by simp) ?_
          refine AllReadyH.cons (o := _) (by simp only [List.getElem?_toArray, List.getElem?_cons_succ, List.getElem?_cons_zero]; rfl) (fun K hK => ?_) ?_
          · refine step_str rfl _ _ rfl w.heap.size (.slice ra t.length rc) t.length (strs t) rfl HR5.out w5.heap.size k rfl (heap_alloc_new w5.drew (.cells #[.string k] 9)) htl (by simp; omega) ?_
            intro g6 cap6 w6 hown6 hgrow6 hlt6
            have hw6 : Bel w w6 := Bel.row hBk hgrow6 (fun g hg => (HR.out.lt g hg).1)
            obtain ⟨z6, c6_1, f6_1, l6_1, n6_1, m6_1⟩ := hw6.factz (b := ob) hobw
            obtain ⟨-, c6_2, -, l6_2, n6_2, m6_2⟩ := hw6.factz (b := sb) hsbw
            have HG6 := hide hown6
            have HO6 := hide (ownsRow_bel HO.out (show Bel w (w6.alloc (.cells #[.slice (some ⟨g6, 0, none⟩) (t.length + 1) cap6] 34)) from Bel.alloc hw6 _))
            clear hown6 hgrow6
            refine hK.out _ _ ?_ (fun hHeld2 => ?_)
            · (try dsimp only); go_keep
            clear hHeld hK K
            have hHeld := hHeld2
            clear hHeld2
            try simp only [Act.put, List.setIfInBounds_toArray, List.set_cons_zero, List.set_cons_succ]
            refine wpAnyH_ready (rs := [5]) (by kernel_rfl) (by simp) ?_
            refine AllReadyH.cons (o := _) (by simp only [List.getElem?_toArray, List.getElem?_cons_succ, List.getElem?_cons_zero]; rfl) (fun K hK => ?_) ?_
            · go_simp
              refine hK.out _ _ ?_ (fun hHeld2 => ?_)
              · (try dsimp only); go_keep
              clear hHeld hK K
              have hHeld := hHeld2
              clear hHeld2
              try simp only [Act.put, List.setIfInBounds_toArray, List.set_cons_zero, List.set_cons_succ]
              refine wpAnyH_ready (rs := [6]) (by kernel_rfl) (by simp) ?_
              refine AllReadyH.cons (o := _) (by simp only [List.getElem?_toArray, List.getElem?_cons_succ, List.getElem?_cons_zero]; rfl) (fun K hK => ?_) ?_
              · refine step_row rfl _ _ rfl B (.slice sa m sc) m vals rfl HO6.out w6.heap.size (some ⟨g6, 0, none⟩) (t.length + 1) cap6 rfl (heap_alloc_new w6 (.cells #[.slice (some ⟨g6, 0, none⟩) (t.length + 1) cap6] 34)) hm (by simp; omega) ?_
                intro g7 cap7 w7 hown7 hgrow7 hlt7
                have c7_1 : ∀ j, w7.cell? ⟨ob, j, none⟩ = (w6.alloc (.cells #[.slice (some ⟨g6, 0, none⟩) (t.length + 1) cap6] 34)).cell? ⟨ob, j, none⟩ := fun j => World.cell?_of_block (hgrow7.block ob (by simp; omega) (fun e => HN.out.1 e.symm))
                have c7_2 : ∀ j, w7.cell? ⟨sb, j, none⟩ = (w6.alloc (.cells #[.slice (some ⟨g6, 0, none⟩) (t.length + 1) cap6] 34)).cell? ⟨sb, j, none⟩ := fun j => World.cell?_of_block (hgrow7.block sb (by simp; omega) (fun e => HN.out.2 e.symm))
                have f7_1 : ∀ j, w7.frozen? ⟨ob, j, none⟩ = (w6.alloc (.cells #[.slice (some ⟨g6, 0, none⟩) (t.length + 1) cap6] 34)).frozen? ⟨ob, j, none⟩ := fun j => World.frozen?_of_block (hgrow7.block ob (by simp; omega) (fun e => HN.out.1 e.symm))
                have HG7 := hide (show _ ∧ _ from ⟨hown7, hgrow7⟩)
                clear hown7 hgrow7
                refine hK.out _ _ ?_ (fun hHeld2 => ?_)
                · (try dsimp only); go_keep
                clear hHeld hK K
                have hHeld := hHeld2
                clear hHeld2
                try simp only [Act.put, List.setIfInBounds_toArray, List.set_cons_zero, List.set_cons_succ]
                refine wpAnyH_ready (rs := [7]) (by kernel_rfl) (by simp) ?_
                refine AllReadyH.cons (o := _) (by simp only [List.getElem?_toArray, List.getElem?_cons_succ, List.getElem?_cons_zero]; rfl) (fun K hK => ?_) ?_
                · go_simp
                  refine hK.out _ _ ?_ (fun hHeld2 => ?_)
                  · (try dsimp only); go_keep
                  clear hHeld hK K
                  have hHeld := hHeld2
                  clear hHeld2
                  try simp only [Act.put, List.setIfInBounds_toArray, List.set_cons_zero, List.set_cons_succ]
                  refine wpAnyH_done (by kernel_rfl) ?_ _
                  refine NoPanic.normal ?_
                  go_wp2_with fail
                  go_ret
                  exact ⟨rfl, _, w7, g7, cap7, _, hw6.alloc _, HG7.out.2, rfl, HG7.out.1, stacks_row HG6.out HO6.out HG7.out.2 hB⟩
                exact AllReadyH.nil
              exact AllReadyH.nil
            exact AllReadyH.nil
          exact AllReadyH.nil
        exact AllReadyH.nil
      refine AllReadyH.cons (o := _) (by simp only [List.getElem?_toArray, List.getElem?_cons_succ, List.getElem?_cons_zero]; rfl) (fun K hK => ?_) ?_
      · go_simp
        refine hK.out _ _ ?_ (fun hHeld2 => ?_)
        · (try dsimp only); go_keep
        clear hHeld hK K
        have hHeld := hHeld2
        clear hHeld2
        try simp only [Act.put, List.setIfInBounds_toArray, List.set_cons_zero, List.set_cons_succ]
        refine wpAnyH_ready (rs := [0, 4]) (by kernel_rfl) (by simp) ?_
        refine AllReadyH.cons (o := _) (by simp only [List.getElem?_toArray, List.getElem?_cons_succ, List.getElem?_cons_zero]; rfl) (fun K hK => ?_) ?_
        · go_simp
          refine hK.out _ _ ?_ (fun hHeld2 => ?_)
          · (try dsimp only); go_keep
          clear hHeld hK K
          have hHeld := hHeld2
          clear hHeld2
          try simp only [Act.put, List.setIfInBounds_toArray, List.set_cons_zero, List.set_cons_succ]
          refine wpAnyH_ready (rs := [4]) (by kernel_rfl) (by simp) ?_
          refine AllReadyH.cons (o := _) (by simp only [List.getElem?_toArray, List.getElem?_cons_succ, List.getElem?_cons_zero]; rfl) (fun K hK => ?_) ?_
          · refine step_str rfl _ _ rfl w.heap.size (.slice ra t.length rc) t.length (strs t) rfl HR5.out w5.heap.size k rfl (heap_alloc_new w5.drew (.cells #[.string k] 9)) htl (by simp; omega) ?_
            intro g6 cap6 w6 hown6 hgrow6 hlt6
            have hw6 : Bel w w6 := Bel.row hBk hgrow6 (fun g hg => (HR.out.lt g hg).1)
            obtain ⟨z6, c6_1, f6_1, l6_1, n6_1, m6_1⟩ := hw6.factz (b := ob) hobw
            obtain ⟨-, c6_2, -, l6_2, n6_2, m6_2⟩ := hw6.factz (b := sb) hsbw
            have HG6 := hide hown6
            have HO6 := hide (ownsRow_bel HO.out (show Bel w (w6.alloc (.cells #[.slice (some ⟨g6, 0, none⟩) (t.length + 1) cap6] 34)) from Bel.alloc hw6 _))
            clear hown6 hgrow6
            refine hK.out _ _ ?_ (fun hHeld2 => ?_)
            · (try dsimp only); go_keep
            clear hHeld hK K
            have hHeld := hHeld2
            clear hHeld2
            try simp only [Act.put, List.setIfInBounds_toArray, List.set_cons_zero, List.set_cons_succ]
            refine wpAnyH_ready (rs := [5]) (by kernel_rfl) (by simp) ?_
            refine AllReadyH.cons (o := _) (by simp only [List.getElem?_toArray, List.getElem?_cons_succ, List.getElem?_cons_zero]; rfl) (fun K hK => ?_) ?_
            · go_simp
              refine hK.out _ _ ?_ (fun hHeld2 => ?_)
              · (try dsimp only); go_keep
              clear hHeld hK K
              have hHeld := hHeld2
              clear hHeld2
              try simp only [Act.put, List.setIfInBounds_toArray, List.set_cons_zero, List.set_cons_succ]
              refine wpAnyH_ready (rs := [6]) (by kernel_rfl) (by simp) ?_
              refine AllReadyH.cons (o := _) (by simp only [List.getElem?_toArray, List.getElem?_cons_succ, List.getElem?_cons_zero]; rfl) (fun K hK => ?_) ?_
              · refine step_row rfl _ _ rfl B (.slice sa m sc) m vals rfl HO6.out w6.heap.size (some ⟨g6, 0, none⟩) (t.length + 1) cap6 rfl (heap_alloc_new w6 (.cells #[.slice (some ⟨g6, 0, none⟩) (t.length + 1) cap6] 34)) hm (by simp; omega) ?_
                intro g7 cap7 w7 hown7 hgrow7 hlt7
                have c7_1 : ∀ j, w7.cell? ⟨ob, j, none⟩ = (w6.alloc (.cells #[.slice (some ⟨g6, 0, none⟩) (t.length + 1) cap6] 34)).cell? ⟨ob, j, none⟩ := fun j => World.cell?_of_block (hgrow7.block ob (by simp; omega) (fun e => HN.out.1 e.symm))
                have c7_2 : ∀ j, w7.cell? ⟨sb, j, none⟩ = (w6.alloc (.cells #[.slice (some ⟨g6, 0, none⟩) (t.length + 1) cap6] 34)).cell? ⟨sb, j, none⟩ := fun j => World.cell?_of_block (hgrow7.block sb (by simp; omega) (fun e => HN.out.2 e.symm))
                have f7_1 : ∀ j, w7.frozen? ⟨ob, j, none⟩ = (w6.alloc (.cells #[.slice (some ⟨g6, 0, none⟩) (t.length + 1) cap6] 34)).frozen? ⟨ob, j, none⟩ := fun j => World.frozen?_of_block (hgrow7.block ob (by simp; omega) (fun e => HN.out.1 e.symm))
                have HG7 := hide (show _ ∧ _ from ⟨hown7, hgrow7⟩)
                clear hown7 hgrow7
                refine hK.out _ _ ?_ (fun hHeld2 => ?_)
                · (try dsimp only); go_keep
                clear hHeld hK K
                have hHeld := hHeld2
                clear hHeld2
                try simp only [Act.put, List.setIfInBounds_toArray, List.set_cons_zero, List.set_cons_succ]
                refine wpAnyH_ready (rs := [7]) (by kernel_rfl) (by simp) ?_
                refine AllReadyH.cons (o := _) (by simp only [List.getElem?_toArray, List.getElem?_cons_succ, List.getElem?_cons_zero]; rfl) (fun K hK => ?_) ?_
                · go_simp
                  refine hK.out _ _ ?_ (fun hHeld2 => ?_)
                  · (try dsimp only); go_keep
                  clear hHeld hK K
                  have hHeld := hHeld2
                  clear hHeld2
                  try simp only [Act.put, List.setIfInBounds_toArray, List.set_cons_zero, List.set_cons_succ]
                  refine wpAnyH_done (by kernel_rfl) ?_ _
                  refine NoPanic.normal ?_
                  go_wp2_with fail
                  go_ret
                  exact ⟨rfl, _, w7, g7, cap7, _, hw6.alloc _, HG7.out.2, rfl, HG7.out.1, stacks_row HG6.out HO6.out HG7.out.2 hB⟩
                exact AllReadyH.nil
              exact AllReadyH.nil
            exact AllReadyH.nil
          exact AllReadyH.nil
        refine AllReadyH.cons (o := _) (by simp only [List.getElem?_toArray, List.getElem?_cons_succ, List.getElem?_cons_zero]; rfl) (fun K hK => ?_) ?_
        · refine step_str rfl _ _ rfl w.heap.size (.slice ra t.length rc) t.length (strs t) rfl HR5.out w5.heap.size k rfl (heap_alloc_new w5.drew (.cells #[.string k] 9)) htl (by simp; omega) ?_
          intro g6 cap6 w6 hown6 hgrow6 hlt6
          have hw6 : Bel w w6 := Bel.row hBk hgrow6 (fun g hg => (HR.out.lt g hg).1)
          obtain ⟨z6, c6_1, f6_1, l6_1, n6_1, m6_1⟩ := hw6.factz (b := ob) hobw
          obtain ⟨-, c6_2, -, l6_2, n6_2, m6_2⟩ := hw6.factz (b := sb) hsbw
          have HG6 := hide hown6
          have HO6 := hide (ownsRow_bel HO.out (show Bel w (w6.alloc (.cells #[.slice (some ⟨g6, 0, none⟩) (t.length + 1) cap6] 34)) from Bel.alloc hw6 _))
          clear hown6 hgrow6
          refine hK.out _ _ ?_ (fun hHeld2 => ?_)
          · (try dsimp only); go_keep
          clear hHeld hK K
          have hHeld := hHeld2
          clear hHeld2
          try simp only [Act.put, List.setIfInBounds_toArray, List.set_cons_zero, List.set_cons_succ]
          refine wpAnyH_ready (rs := [0, 5]) (by kernel_rfl) (by simp) ?_
          refine AllReadyH.cons (o := _) (by simp only [List.getElem?_toArray, List.getElem?_cons_succ, List.getElem?_cons_zero]; rfl) (fun K hK => ?_) ?_
          · go_simp
            refine hK.out _ _ ?_ (fun hHeld2 => ?_)
            · (try dsimp only); go_keep
            clear hHeld hK K
            have hHeld := hHeld2
            clear hHeld2
            try simp only [Act.put, List.setIfInBounds_toArray, List.set_cons_zero, List.set_cons_succ]
            refine wpAnyH_ready (rs := [5]) (by kernel_rfl) (by simp) ?_
            refine AllReadyH.cons (o := _) (by simp only [List.getElem?_toArray, List.getElem?_cons_succ, List.getElem?_cons_zero]; rfl) (fun K hK => ?_) ?_
            · go_simp
              refine hK.out _ _ ?_ (fun hHeld2 => ?_)
              · (try dsimp only); go_keep
              clear hHeld hK K
              have hHeld := hHeld2
              clear hHeld2
              try simp only [Act.put, List.setIfInBounds_toArray, List.set_cons_zero, List.set_cons_succ]
              refine wpAnyH_ready (rs := [6]) (by kernel_rfl) (by simp) ?_
              refine AllReadyH.cons (o := _) (by simp only [List.getElem?_toArray, List.getElem?_cons_succ, List.getElem?_cons_zero]; rfl) (fun K hK => ?_) ?_
              · refine step_row rfl _ _ rfl B (.slice sa m sc) m vals rfl HO6.out w6.heap.size (some ⟨g6, 0, none⟩) (t.length + 1) cap6 rfl (heap_alloc_new w6 (.cells #[.slice (some ⟨g6, 0, none⟩) (t.length + 1) cap6] 34)) hm (by simp; omega) ?_
                intro g7 cap7 w7 hown7 hgrow7 hlt7
                have c7_1 : ∀ j, w7.cell? ⟨ob, j, none⟩ = (w6.alloc (.cells #[.slice (some ⟨g6, 0, none⟩) (t.length + 1) cap6] 34)).cell? ⟨ob, j, none⟩ := fun j => World.cell?_of_block (hgrow7.block ob (by simp; omega) (fun e => HN.out.1 e.symm))
                have c7_2 : ∀ j, w7.cell? ⟨sb, j, none⟩ = (w6.alloc (.cells #[.slice (some ⟨g6, 0, none⟩) (t.length + 1) cap6] 34)).cell? ⟨sb, j, none⟩ := fun j => World.cell?_of_block (hgrow7.block sb (by simp; omega) (fun e => HN.out.2 e.symm))
                have f7_1 : ∀ j, w7.frozen? ⟨ob, j, none⟩ = (w6.alloc (.cells #[.slice (some ⟨g6, 0, none⟩) (t.length + 1) cap6] 34)).frozen? ⟨ob, j, none⟩ := fun j => World.frozen?_of_block (hgrow7.block ob (by simp; omega) (fun e => HN.out.1 e.symm))
                have HG7 := hide (show _ ∧ _ from ⟨hown7, hgrow7⟩)
                clear hown7 hgrow7
                refine hK.out _ _ ?_ (fun hHeld2 => ?_)
                · (try dsimp only); go_keep
                clear hHeld hK K
                have hHeld := hHeld2
                clear hHeld2
                try simp only [Act.put, List.setIfInBounds_toArray, List.set_cons_zero, List.set_cons_succ]
                refine wpAnyH_ready (rs := [7]) (by kernel_rfl) (by simp) ?_
                refine AllReadyH.cons (o := _) (by simp only [List.getElem?_toArray, List.getElem?_cons_succ, List.getElem?_cons_zero]; rfl) (fun K hK => ?_) ?_
                · go_simp
                  refine hK.out _ _ ?_ (fun hHeld2 => ?_)
                  · (try dsimp only); go_keep
                  clear hHeld hK K
                  have hHeld := hHeld2
                  clear hHeld2
                  try simp only [Act.put, List.setIfInBounds_toArray, List.set_cons_zero, List.set_cons_succ]
                  refine wpAnyH_done (by kernel_rfl) ?_ _
                  refine NoPanic.normal ?_
                  go_wp2_with fail
                  go_ret
                  exact ⟨rfl, _, w7, g7, cap7, _, hw6.alloc _, HG7.out.2, rfl, HG7.out.1, stacks_row HG6.out HO6.out HG7.out.2 hB⟩
                exact AllReadyH.nil
              exact AllReadyH.nil
            exact AllReadyH.nil
          refine AllReadyH.cons (o := _) (by simp only [List.getElem?_toArray, List.getElem?_cons_succ, List.getElem?_cons_zero]; rfl) (fun K hK => ?_) ?_
          · go_simp
            refine hK.out _ _ ?_ (fun hHeld2 => ?_)
            · (try dsimp only); go_keep
            clear hHeld hK K
            have hHeld := hHeld2
            clear hHeld2
            try simp only [Act.put, List.setIfInBounds_toArray, List.set_cons_zero, List.set_cons_succ]
            refine wpAnyH_ready (rs := [0]) (by kernel_rfl) (by simp) ?_
            refine AllReadyH.cons (o := _) (by simp only [List.getElem?_toArray, List.getElem?_cons_succ, List.getElem?_cons_zero]; rfl) (fun K hK => ?_) ?_
            · go_simp
              refine hK.out _ _ ?_ (fun hHeld2 => ?_)
              · (try dsimp only); go_keep
              clear hHeld hK K
              have hHeld := hHeld2
              clear hHeld2
              try simp only [Act.put, List.setIfInBounds_toArray, List.set_cons_zero, List.set_cons_succ]
              refine wpAnyH_ready (rs := [6]) (by kernel_rfl) (by simp) ?_
              refine AllReadyH.cons (o := _) (by simp only [List.getElem?_toArray, List.getElem?_cons_succ, List.getElem?_cons_zero]; rfl) (fun K hK => ?_) ?_
              · refine step_row rfl _ _ rfl B (.slice sa m sc) m vals rfl HO6.out w6.heap.size (some ⟨g6, 0, none⟩) (t.length + 1) cap6 rfl (heap_alloc_new w6 (.cells #[.slice (some ⟨g6, 0, none⟩) (t.length + 1) cap6] 34)) hm (by simp; omega) ?_
                intro g7 cap7 w7 hown7 hgrow7 hlt7
                have c7_1 : ∀ j, w7.cell? ⟨ob, j, none⟩ = (w6.alloc (.cells #[.slice (some ⟨g6, 0, none⟩) (t.length + 1) cap6] 34)).cell? ⟨ob, j, none⟩ := fun j => World.cell?_of_block (hgrow7.block ob (by simp; omega) (fun e => HN.out.1 e.symm))
                have c7_2 : ∀ j, w7.cell? ⟨sb, j, none⟩ = (w6.alloc (.cells #[.slice (some ⟨g6, 0, none⟩) (t.length + 1) cap6] 34)).cell? ⟨sb, j, none⟩ := fun j => World.cell?_of_block (hgrow7.block sb (by simp; omega) (fun e => HN.out.2 e.symm))
                have f7_1 : ∀ j, w7.frozen? ⟨ob, j, none⟩ = (w6.alloc (.cells #[.slice (some ⟨g6, 0, none⟩) (t.length + 1) cap6] 34)).frozen? ⟨ob, j, none⟩ := fun j => World.frozen?_of_block (hgrow7.block ob (by simp; omega) (fun e => HN.out.1 e.symm))
                have HG7 := hide (show _ ∧ _ from ⟨hown7, hgrow7⟩)
                clear hown7 hgrow7
                refine hK.out _ _ ?_ (fun hHeld2 => ?_)
                · (try dsimp only); go_keep
                clear hHeld hK K
                have hHeld := hHeld2
                clear hHeld2
                try simp only [Act.put, List.setIfInBounds_toArray, List.set_cons_zero, List.set_cons_succ]
                refine wpAnyH_ready (rs := [7]) (by kernel_rfl) (by simp) ?_
                refine AllReadyH.cons (o := _) (by simp only [List.getElem?_toArray, List.getElem?_cons_succ, List.getElem?_cons_zero]; rfl) (fun K hK => ?_) ?_
                · go_simp
                  refine hK.out _ _ ?_ (fun hHeld2 => ?_)
                  · (try dsimp only); go_keep
                  clear hHeld hK K
                  have hHeld := hHeld2
                  clear hHeld2
                  try simp only [Act.put, List.setIfInBounds_toArray, List.set_cons_zero, List.set_cons_succ]
                  refine wpAnyH_done (by kernel_rfl) ?_ _
                  refine NoPanic.normal ?_
                  go_wp2_with fail
                  go_ret
                  exact ⟨rfl, _, w7, g7, cap7, _, hw6.alloc _, HG7.out.2, rfl, HG7.out.1, stacks_row HG6.out HO6.out HG7.out.2 hB⟩
                exact AllReadyH.nil
              exact AllReadyH.nil
            exact AllReadyH.nil
          exact AllReadyH.nil
        exact AllReadyH.nil
      exact AllReadyH.nil
end Go.Proofs.YtkkgfgllfbahlaaGreatFmt

namespace Go.Proofs.YtkkgfgllfbahlaaGreatFmt
open Go Go.RowKit
set_option linter.unusedSimpArgs false

/-- The visitor of Stacks: its own state is the kinds above. -/
@[reducible] def stV (stop : ByteArray) : Vis := ⟨List ByteArray, List (List ByteArray), fun _ => .nilIface, fun t k s => match k with
  | some k => (if (k.toList == stop.toList) = true then none else some (t ++ [k]), s ++ [t ++ [k]])
  | none => (none, s)⟩
theorem stV_some (stop k : ByteArray) (ks : List XT) (t : List ByteArray) (s : List (List ByteArray)) : walkX (stV stop) (.mk k ks) t s = if k = stop then s ++ [t ++ [k]] else walkXs (stV stop) ks (t ++ [k]) (s ++ [t ++ [k]]) := by
  unfold walkX
  by_cases h : k = stop
  · subst h
    simp [stV]
  · simp [stV, toList_ne h, h]
mutual
theorem stV_walk (stop : ByteArray) : ∀ (x : XT) (t : List ByteArray) (s : List (List ByteArray)), walkX (stV stop) x t s = s ++ stX stop x t
  | .mk k ks, t, s => by
    rw [stV_some, stX]
    split
    · rfl
    · rw [stV_walks stop ks (t ++ [k]) (s ++ [t ++ [k]])]
      simp
theorem stV_walks (stop : ByteArray) : ∀ (xs : List XT) (t : List ByteArray) (s : List (List ByteArray)), walkXs (stV stop) xs t s = s ++ stXs stop xs t
  | [], t, s => by
    unfold walkXs stXs
    exact (List.append_nil s).symm
  | x :: r, t, s => by
    unfold walkXs stXs
    exact (stV_walks stop r t _).trans (by rw [stV_walk stop x t s, List.append_assoc])
end

theorem grown_bel {w w' : World} (h : Bel w w') : w.grownBy w' none := ⟨h.os, h.tape, h.output, h.size, fun k hk _ => h.block k hk⟩
/-- What lies behind ob: a slice of rows. -/
def OutAt (ob B : Nat) (s : List (List ByteArray)) (w : World) : Prop := w.frozen? ⟨ob, 0, none⟩ = false ∧ ∃ ov vals, w.cell? ⟨ob, 0, none⟩ = some ov ∧ w.ownsRow B 34 1 ov s.length vals ∧ RowsAt B w s vals
/-- What lies in the stack's box. -/
def StkAt (kb B : Nat) (E : Value → ByteArray → Prop) (t : List ByteArray) (w : World) : Prop := ∃ kv vs, Boxed w kb 61 kv ∧ w.ownsRow B 54 1 kv t.length vs ∧ ∀ (i : Nat) (v : Value) (q : ByteArray), vs[i]? = some v → t[i]? = some q → E v q
theorem OutAt.move {ob B : Nat} {s : List (List ByteArray)} {w w' : World} (h : OutAt ob B s w) (hob : ob < w.heap.size) {row : Option Nat} (hg : w.grownBy w' row) (hr : ∀ g, row = some g → g ≠ ob ∧ (g < B ∨ ∃ cur e, w.heap[g]? = some (.cells cur e (0, 0)) ∧ e ≠ 9 ∧ e ≠ 34)) : OutAt ob B s w' := by
  obtain ⟨h1, ov, vals, h2, h3, h4⟩ := h
  have hb : w'.heap[ob]? = w.heap[ob]? := hg.block ob hob (fun e => (hr ob e.symm).1 rfl)
  refine ⟨(World.frozen?_of_block hb).trans h1, ov, vals, (World.cell?_of_block hb).trans h2, own_keep h3 hg fun g hg1 hg2 => ?_, h4.keep hg fun g hg2 => ?_⟩
  · rcases (hr g hg2).2 with h5 | ⟨cur, e, h5, -, h6⟩
    · have := own_base h3 hg1; omega
    · obtain ⟨c1, q1⟩ := own_type h3 hg1
      rw [h5] at q1
      injection q1 with q1
      injection q1 with _ q1
      exact h6 q1
  · rcases (hr g hg2).2 with h5 | ⟨cur, e, h5, h6, -⟩
    · exact .inl h5
    · exact .inr ⟨cur, e, h5, h6⟩
theorem StkAt.move {kb B : Nat} {E : Value → ByteArray → Prop} {t : List ByteArray} {w w' : World} (h : StkAt kb B E t w) {row : Option Nat} (hg : w.grownBy w' row) (hr : ∀ g, row = some g → g ≠ kb ∧ (g < B ∨ ∃ cur e, w.heap[g]? = some (.cells cur e (0, 0)) ∧ e ≠ 54)) : StkAt kb B E t w' := by
  obtain ⟨kv, vs, h1, h2, h3⟩ := h
  refine ⟨kv, vs, h1.kept hg (fun e => (hr kb e.symm).1 rfl), own_keep h2 hg fun g hg1 hg2 => ?_, h3⟩
  rcases (hr g hg2).2 with h5 | ⟨cur, e, h5, h6⟩
  · have := own_base h2 hg1; omega
  · obtain ⟨c1, q1⟩ := own_type h2 hg1
    rw [h5] at q1
    injection q1 with q1
    injection q1 with _ q1
    exact h6 q1

/-- All that the closure of PreorderStack keeps. -/
structure KeptT (ob : Nat) (E : Value → ByteArray → Prop) (fv : Value) (w1 : World) (t : List ByteArray) (b : Nat) (s : List (List ByteArray)) (w : World) : Prop where
  len : s.length + b ≤ 4000
  but : But ob w1 w
  sz : w1.heap.size + 1 < w.heap.size
  out : OutAt ob (w1.heap.size + 2) s w
  stk : StkAt w1.heap.size (w1.heap.size + 2) E t w
  fn : Boxed w (w1.heap.size + 1) 62 fv
section
variable {ob : Nat} {E : Value → ByteArray → Prop} {fv : Value} {w1 : World} {t : List ByteArray} {b : Nat} {s : List (List ByteArray)} {w : World}
theorem KeptT.less (h : KeptT ob E fv w1 t (b + 1) s w) : KeptT ob E fv w1 t b s w := { h with len := by have := h.len; omega }
theorem KeptT.visit {WB w4 : World} {ov row : Value} {vals : List Value} {g cap : Nat} {k : ByteArray} (h : KeptT ob E fv w1 t (b + 1) s w) (hob : ob < w1.heap.size) (htl : t.length < 4000)
    (hown0 : w.ownsRow (w1.heap.size + 2) 34 1 ov s.length vals) (hrows : RowsAt (w1.heap.size + 2) w s vals) (hb : Bel w WB) (hg : WB.grownBy w4 ov.ownBlock)
    (hown : w4.ownsRow (w1.heap.size + 2) 34 1 (.slice (some ⟨g, 0, none⟩) (s.length + 1) cap) (s.length + 1) (vals ++ [row])) (hrow : w4.ownsRow (w1.heap.size + 2) 9 1 row (t ++ [k]).length (strs (t ++ [k]))) :
    KeptT ob E fv w1 t b (s ++ [t ++ [k]]) (w4.setCell ⟨ob, 0, none⟩ (.slice (some ⟨g, 0, none⟩) (s.length + 1) cap)) := by
  have z0 := h.but.le
  have z := h.sz
  have zb := hb.le
  have hownB := ownsRow_bel hown0 hb
  have hr1 : ∀ q, ov.ownBlock = some q → w1.heap.size + 2 ≤ q ∧ ∃ cur, WB.heap[q]? = some (.cells cur 34 (0, 0)) := fun q hq => ⟨own_base hown0 hq, own_type hownB hq⟩
  have hgs := grownBy_setCell' w4 ob (.slice (some ⟨g, 0, none⟩) (s.length + 1) cap)
  have hobb : w4.heap[ob]? = w.heap[ob]? := (hg.block ob (by omega) (fun e => by have := (hr1 ob e.symm).1; omega)).trans (hb.block ob (by omega))
  obtain ⟨hfr, ov', vals', hsv, -⟩ := h.out
  have e1 : (s ++ [t ++ [k]]).length = s.length + 1 := by simp
  refine ⟨by have := h.len; simp; omega, (h.but.trans (But.of_bel hb) |>.grow hg (fun q hq => by have := (hr1 q hq).1; omega)).set _ _, by have := hg.size; have := hgs.size; omega, ⟨?_, _, vals ++ [row], World.cell?_setCell_same' _ _ _ ?_, ?_, ?_⟩, ?_, ?_⟩
  · rw [World.frozen?_setCell]; exact (World.frozen?_of_block hobb).trans hfr
  · rw [World.cell?_of_block hobb, hsv]; rfl
  · rw [e1]
    exact own_keep hown hgs fun q hq hq2 => by
      have h1 := own_base hown hq
      injection hq2 with hq2
      omega
  · have h1 := (hrows.keep (grown_bel hb) (fun q hq => by cases hq)).keep hg fun q hq => .inr (by obtain ⟨-, cur, hc⟩ := hr1 q hq; exact ⟨cur, _, hc, by decide⟩)
    exact (h1.snoc (by simp) (by simp; omega) hrow).keep hgs fun q hq => .inl (by injection hq with hq; omega)
  · refine ((h.stk.move (grown_bel hb) (fun q hq => by cases hq)).move hg fun q hq => ?_).move hgs fun q hq => ?_
    · obtain ⟨h1, cur, hc⟩ := hr1 q hq
      exact ⟨by omega, .inr ⟨cur, _, hc, by decide⟩⟩
    · injection hq with hq
      exact ⟨by omega, .inl (by omega)⟩
  · refine ((h.fn.kept (grown_bel hb) (by simp)).kept hg ?_).kept hgs ?_
    · intro e; have := (hr1 _ e.symm).1; omega
    · intro e; injection e with e; omega
theorem KeptT.push {w4 : World} {o : Obj} {kv node : Value} {vs : List Value} {g cap : Nat} {k : ByteArray} (h : KeptT ob E fv w1 t b s w) (hob : ob < w1.heap.size)
    (hkv : Boxed w w1.heap.size 61 kv) (hst : w.ownsRow (w1.heap.size + 2) 54 1 kv t.length vs) (hE : ∀ (i : Nat) (v : Value) (q : ByteArray), vs[i]? = some v → t[i]? = some q → E v q) (hnew : E node k)
    (hg : (w.alloc o).grownBy w4 kv.ownBlock) (hown : w4.ownsRow (w1.heap.size + 2) 54 1 (.slice (some ⟨g, 0, none⟩) (t.length + 1) cap) (t.length + 1) (vs ++ [node])) :
    KeptT ob E fv w1 (t ++ [k]) b s (w4.setCell ⟨w1.heap.size, 0, none⟩ (.slice (some ⟨g, 0, none⟩) (t.length + 1) cap)) := by
  have z0 := h.but.le
  have z := h.sz
  have hb : Bel w (w.alloc o) := (Bel.refl _).alloc _
  have hstB := ownsRow_bel hst hb
  have hr1 : ∀ q, kv.ownBlock = some q → w1.heap.size + 2 ≤ q ∧ ∃ cur, (w.alloc o).heap[q]? = some (.cells cur 54 (0, 0)) := fun q hq => ⟨own_base hst hq, own_type hstB hq⟩
  have hgs := grownBy_setCell' w4 w1.heap.size (.slice (some ⟨g, 0, none⟩) (t.length + 1) cap)
  have hkb4 : Boxed w4 w1.heap.size 61 kv := (hkv.kept (grown_bel hb) (by simp)).kept hg (fun e => by have := (hr1 _ e.symm).1; omega)
  have hl := hst.1
  have zg := hg.size
  simp only [World.size_alloc] at zg
  refine ⟨h.len, (h.but.trans (But.of_bel hb) |>.grow hg (fun q hq => by have := (hr1 q hq).1; omega)).setNew (by show _ ≤ w1.heap.size; omega) _, by have := hgs.size; omega, ?_, ⟨_, vs ++ [node], hkb4.set _, ?_, ?_⟩, ?_⟩
  · refine ((h.out.move (by omega) (grown_bel hb) (fun q hq => by cases hq)).move (by simp; omega) hg fun q hq => ?_).move (by omega) hgs fun q hq => ?_
    · obtain ⟨h1, cur, hc⟩ := hr1 q hq
      exact ⟨by omega, .inr ⟨cur, _, hc, by decide, by decide⟩⟩
    · injection hq with hq
      exact ⟨by omega, .inl (by omega)⟩
  · rw [List.length_append]
    exact own_keep hown hgs fun q hq hq2 => by
      have h1 := own_base hown hq
      injection hq2 with hq2
      omega
  · intro i v q hv hq
    rcases Nat.lt_or_ge i t.length with hlt | hge
    · rw [List.getElem?_append_left hlt] at hq
      rw [List.getElem?_append_left (by omega)] at hv
      exact hE i v q hv hq
    · rw [List.getElem?_append_right hge] at hq
      rw [List.getElem?_append_right (by omega)] at hv
      have hll : vs.length = t.length := by omega
      rw [hll] at hv
      cases hi : i - t.length with
      | zero => rw [hi] at hv hq; simp at hv hq; subst hv hq; exact hnew
      | succ j => rw [hi] at hq; simp at hq
  · refine ((h.fn.kept (grown_bel hb) (by simp)).kept hg ?_).kept hgs ?_
    · intro e; have := (hr1 _ e.symm).1; omega
    · intro e; injection e with e; omega
theorem KeptT.pop {k : ByteArray} {g cap : Nat} {vs : List Value} (h : KeptT ob E fv w1 (t ++ [k]) (b + 1) s w) (hob : ob < w1.heap.size)
    (hkv : Boxed w w1.heap.size 61 (.slice (some ⟨g, 0, none⟩) (t.length + 1) cap)) (hst : w.ownsRow (w1.heap.size + 2) 54 1 (.slice (some ⟨g, 0, none⟩) (t.length + 1) cap) (t ++ [k]).length vs)
    (hE : ∀ (i : Nat) (v : Value) (q : ByteArray), vs[i]? = some v → (t ++ [k])[i]? = some q → E v q) :
    KeptT ob E fv w1 t b s (w.setCell ⟨w1.heap.size, 0, none⟩ (.slice (some ⟨g, 0, none⟩) t.length cap)) := by
  have z := h.sz
  have hgs := grownBy_setCell' w w1.heap.size (.slice (some ⟨g, 0, none⟩) t.length cap)
  refine ⟨by have := h.len; omega, h.but.setNew (by show _ ≤ w1.heap.size; omega) _, by have := hgs.size; omega, ?_, ⟨_, vs.take t.length, hkv.set _, ?_, ?_⟩, ?_⟩
  · refine h.out.move (by have := h.but.le; omega) hgs fun q hq => ?_
    injection hq with hq
    exact ⟨by omega, .inl (by omega)⟩
  · have h1 : w.ownsRow (w1.heap.size + 2) 54 1 (.slice (some ⟨g, 0, none⟩) t.length cap) t.length (vs.take t.length) := by
      rcases hst with ⟨q1, q2⟩
      rw [List.length_append] at q1 q2
      simp only [List.length_cons, List.length_nil] at q1 q2
      rcases q2 with ⟨q2, -⟩ | ⟨g', cap', cur, hv, hb, hh, h2, h3, h4, h5⟩
      · simp at q2
      · injection hv with v1 v2 v3
        injection v1 with v1
        injection v1 with v1
        subst v1 v3
        refine ⟨by simp; omega, .inr ⟨g, cap, cur, rfl, hb, hh, by omega, h3, h4, ?_⟩⟩
        rw [← h5, List.take_take]
        congr 1
        omega
    exact own_keep h1 hgs fun q hq hq2 => by
      have h1 := own_base h1 hq
      injection hq2 with hq2
      omega
  · intro i v q hv hq
    have hlt := (List.getElem?_eq_some_iff.1 hq).1
    rw [List.getElem?_take, if_pos hlt] at hv
    exact hE i v q hv (by rw [List.getElem?_append_left hlt]; exact hq)
  · refine h.fn.kept hgs ?_
    intro e; injection e with e; omega
end
end Go.Proofs.YtkkgfgllfbahlaaGreatFmt

namespace Go.Proofs.YtkkgfgllfbahlaaGreatFmt
open Go Go.RowKit
set_option linter.unusedSimpArgs false

theorem info_anode : (Tryz.prog.info? 54).map (fun i => (i.zero, i.size, i.bytes)) = some (some .nilIface, 1, 16) := by kernel_rfl
theorem under_anodes : Tryz.prog.underlying 61 = some (.slice 54) := by kernel_rfl
theorem grown_cell {w w' : World} {row : Option Nat} (hg : w.grownBy w' row) {b : Nat} (hb : b < w.heap.size) (hne : ∀ q, row = some q → b ≠ q) : (∀ j, w'.cell? ⟨b, j, none⟩ = w.cell? ⟨b, j, none⟩) ∧ ∀ j, w'.frozen? ⟨b, j, none⟩ = w.frozen? ⟨b, j, none⟩ :=
  ⟨fun j => World.cell?_of_block (hg.block b hb fun e => hne b e.symm rfl), fun j => World.frozen?_of_block (hg.block b hb fun e => hne b e.symm rfl)⟩
/-- A value is a node of a kind, as it lay in w1. -/
def NdE (lo : Nat) (w1 : World) (v : Value) (q : ByteArray) : Prop := ∃ a : Ast, At (In lo w1.heap.size) w1 a v ∧ a.good = true ∧ a.kind = q
theorem NdE.kind {lo ob : Nat} {w1 w : World} {v : Value} {q : ByteArray} (h : NdE lo w1 v q) (hlo : ob < lo) (hob : 0 < ob) (hobw : ob < w1.heap.size) (hb : But ob w1 w) (htok : TokTab w1) :
    ∃ ty p, v = .iface ty (.pointer (some ⟨p, 0, none⟩)) ∧ ∀ W, Bel w W → Calls Tryz.prog 30 #[v] W fun e w' => e = .returned (.string q) ∧ Bel W w' := by
  obtain ⟨a, ha, hg, rfl⟩ := h
  obtain ⟨p, hp, -⟩ := ha.ptr
  refine ⟨a.ptype, p, hp, fun W hW => ?_⟩
  have z := hb.le
  have hS : ∀ q, In lo w1.heap.size q → q < w.heap.size := fun q hq => by have := hq.2; omega
  have haw : At (In lo w1.heap.size) w a v := ha.stay (fun _ h => h) (fun q hq => hb.block q hq.2 (fun e => by injection e with e; have := hq.1; omega))
  have htk : TokTab w := fun t ht => (World.cell?_of_block (hb.block 0 (by omega) (fun e => by injection e with e; omega))).trans (htok t ht)
  have h0 : 0 < w.heap.size := by omega
  exact kindOf_any a hg (haw.stay (fun _ h => h) (hW.mid hS)) (fun k hk => Nat.lt_of_lt_of_le (hS k hk) hW.le) (htk.bel h0 hW) (Nat.lt_of_lt_of_le h0 hW.le)
/-- Where what lies for the closures of Stacks. -/
structure LayT (stop : ByteArray) (ob sb lo : Nat) (w1 : World) : Prop where
  ob0 : 0 < ob
  obw : ob < w1.heap.size
  sbw : sb < w1.heap.size
  ne : ¬ sb = ob
  lo : ob < lo
  st : w1.cell? ⟨sb, 0, none⟩ = some (.string stop)
  tok : TokTab w1
abbrev fvT (ob sb : Nat) : Value := .func (.func 33) #[] #[.pointer (some ⟨ob, 0, none⟩), .pointer (some ⟨sb, 0, none⟩)]

set_option maxRecDepth 100000 in
set_option maxHeartbeats 8000000 in
theorem ps_vis {stop : ByteArray} {ob sb lo : Nat} {w1 : World} (L : LayT stop ob sb lo w1) (b : Nat) (t : List ByteArray) (s : List (List ByteArray)) (w : World) (a : Ast) (node : Value) (hok : t.length + (b + 1) ≤ 4000)
    (h : KeptT ob (NdE lo w1) (fvT ob sb) w1 t (b + 1) s w) (ha : At (In lo w1.heap.size) w1 a node) (hg : a.good = true) :
    Calls Tryz.prog 57 #[node, .pointer (some ⟨w1.heap.size + 1, 0, none⟩), .pointer (some ⟨w1.heap.size, 0, none⟩)] w fun e w' => e = .returned (.bool (!(a.kind.toList == stop.toList))) ∧
      KeptT ob (NdE lo w1) (fvT ob sb) w1 (if (a.kind.toList == stop.toList) = true then t else t ++ [a.kind]) b (s ++ [t ++ [a.kind]]) w' := by
  obtain ⟨i0, hi, hz0, hz1, hz2⟩ := info_parts info_anode
  have hN : NdE lo w1 node a.kind := ⟨a, ha, hg, rfl⟩
  obtain ⟨ty, p, rfl, hK⟩ := hN.kind L.lo L.ob0 L.obw h.but L.tok
  obtain ⟨hfr, ov, vals, hsv, hown, hrows⟩ := h.out
  obtain ⟨kv, vs, hkv, hst, hE⟩ := h.stk
  have z := h.sz
  have hlen := h.len
  have hstw : w.cell? ⟨sb, 0, none⟩ = some (.string stop) := (World.cell?_of_block (h.but.block sb L.sbw (fun e => L.ne (by injection e)))).trans L.st
  have HC := hide (stacks_closure stop ob sb (w1.heap.size + 2) a.kind (.iface ty (.pointer (some ⟨p, 0, none⟩))) t vs vals ov kv s.length w (by have := L.obw; omega) (by have := L.sbw; omega) L.ne (by omega) hstw hfr hsv hown hst (by omega) (by omega) hK
    (fun i v q hv hq => (hE i v q hv hq).kind L.lo L.ob0 L.obw h.but L.tok))
  have ck := hkv.cell
  have cf := h.fn.cell
  have H := hide h
  have HO := hide (show _ ∧ _ from ⟨hown, hrows⟩)
  have HN := hide hN
  obtain ⟨ka, kc, rfl⟩ := own_slice hst
  clear h hK hE hown hrows hstw ha hN
  cases hc : (a.kind.toList == stop.toList)
  · go_enter Tryz.func57, Tryz.ntmps57
    go_wp2_with fail
    with_reducible refine Calls.mono HC.out ?_
    rintro e w2 ⟨rfl, WB, w4, g, cap, row, hb, hgrow, rfl, hown4, hrow4⟩
    have hV := H.out.visit L.obw (by omega) HO.out.1 HO.out.2 hb hgrow hown4 hrow4
    clear hb hgrow hown4 hrow4 hst ck cf hkv
    generalize (w4.setCell ⟨ob, 0, none⟩ (.slice (some ⟨g, 0, none⟩) (s.length + 1) cap)) = W2 at hV ⊢
    clear H
    obtain ⟨kv2, vs2, hkv2, hst2, hE2⟩ := hV.stk
    have ck2 := hkv2.cell
    have fk2 := hkv2.frozen
    have z2 := hV.sz
    have HV := hide hV
    obtain ⟨ka2, kc2, rfl⟩ := own_slice hst2
    have HS := hide (show _ ∧ _ ∧ _ from ⟨hkv2, hst2, hE2⟩)
    have HSB := hide (ownsRow_bel hst2 (show Bel W2 (W2.alloc (.cells #[.iface ty (.pointer (some ⟨p, 0, none⟩))] 54)) from (Bel.refl _).alloc _))
    have hno : ∀ q, (Value.slice ka2 t.length kc2).ownBlock = some q → w1.heap.size + 2 ≤ q := fun q hq => own_base hst2 hq
    have HNO := hide hno
    have l2 : w1.heap.size < W2.heap.size := by omega
    clear hV hkv2 hst2 hE2 hno
    go_wp2_with (first
      | (at_builtin
         refine wpList_append_lies _ rfl _ _ 61 rfl (w1.heap.size + 2) 54 i0 .nilIface 1 16 under_anodes hi hz0 hz1 hz2 rfl (by decide) (.slice ka2 t.length kc2) t.length vs2 rfl HSB.out ⟨W2.heap.size, 0, none⟩ 1 1 [.iface ty (.pointer (some ⟨p, 0, none⟩))] rfl rfl (World.news_of_block (heap_alloc_new W2 (.cells #[.iface ty (.pointer (some ⟨p, 0, none⟩))] 54))) (fun u hu => by simp at hu; rcases hu with rfl; rfl) (by decide) (by unfold maxLen; omega) (by omega) (by simp; omega) _ rfl ?_
         intro g5 cap5 w5 hown5 hgrow5 hat5 hlt5
         obtain ⟨c5, f5⟩ := grown_cell hgrow5 (b := w1.heap.size) (by rw [World.size_alloc]; omega) (fun q hq => by have := HNO.out q hq; omega)
         have HG := hide (show _ ∧ _ from ⟨hown5, hgrow5⟩)
         clear hown5 hgrow5 hat5))
    go_ret
    exact ⟨rfl, HV.out.push L.obw HS.out.1 HS.out.2.1 HS.out.2.2 HN.out HG.out.2 HG.out.1⟩
  · go_enter Tryz.func57, Tryz.ntmps57
    go_wp2_with fail
    with_reducible refine Calls.mono HC.out ?_
    rintro e w2 ⟨rfl, WB, w4, g, cap, row, hb, hgrow, rfl, hown4, hrow4⟩
    have hV := H.out.visit L.obw (by omega) HO.out.1 HO.out.2 hb hgrow hown4 hrow4
    clear hb hgrow hown4 hrow4 hst ck cf hkv
    generalize (w4.setCell ⟨ob, 0, none⟩ (.slice (some ⟨g, 0, none⟩) (s.length + 1) cap)) = W2 at hV ⊢
    clear H
    have HV := hide hV
    clear hV
    go_wp2_with fail
    go_ret
    exact ⟨rfl, HV.out⟩

set_option maxRecDepth 100000 in
set_option maxHeartbeats 8000000 in
theorem ps_nil {stop : ByteArray} {ob sb lo : Nat} {w1 : World} (L : LayT stop ob sb lo w1) (b : Nat) (t : List ByteArray) (k : ByteArray) (s : List (List ByteArray)) (w : World) (hok : t.length < 4000)
    (h : KeptT ob (NdE lo w1) (fvT ob sb) w1 (t ++ [k]) (b + 1) s w) :
    Calls Tryz.prog 57 #[.nilIface, .pointer (some ⟨w1.heap.size + 1, 0, none⟩), .pointer (some ⟨w1.heap.size, 0, none⟩)] w fun e w' => ∃ c, e = .returned (.bool c) ∧ KeptT ob (NdE lo w1) (fvT ob sb) w1 t b s w' := by
  obtain ⟨kv, vs, hkv, hst, hE⟩ := h.stk
  have z := h.sz
  obtain ⟨g, cap, rfl, -, -⟩ := row_news hst (by simp)
  have hcc : t.length + 1 ≤ cap ∧ cap ≤ 9223372036854775807 := by
    rcases hst.2 with ⟨q, -⟩ | ⟨_, _, _, hv, _, _, h3, h4, _⟩
    · simp at q
    · injection hv with _ _ hv; subst hv; rw [List.length_append] at h3; exact ⟨h3, h4⟩
  have hlk : (t ++ [k]).length = t.length + 1 := by simp
  rw [hlk] at hkv
  have hst' : w.ownsRow (w1.heap.size + 2) 54 1 (.slice (some ⟨g, 0, none⟩) (t.length + 1) cap) (t ++ [k]).length vs := by rw [hlk] at hst ⊢; exact hst
  have ck := hkv.cell
  have fk := hkv.frozen
  obtain ⟨hc1, hc2⟩ := hcc
  have H := hide (show _ ∧ _ ∧ _ ∧ _ from ⟨h, hkv, hst', hE⟩)
  clear h hE hst hst' hkv hlk
  go_enter Tryz.func57, Tryz.ntmps57
  go_wp2_with fail
  go_ret
  exact ⟨true, rfl, H.out.1.pop L.obw H.out.2.1 H.out.2.2.1 H.out.2.2.2⟩
end Go.Proofs.YtkkgfgllfbahlaaGreatFmt

namespace Go.Proofs.YtkkgfgllfbahlaaGreatFmt
open Go Go.RowKit
set_option linter.unusedSimpArgs false

theorem goodT {stop : ByteArray} {ob sb lo : Nat} {w1 : World} (L : LayT stop ob sb lo w1) :
    GoodG (stV stop) (In lo w1.heap.size) w1 260 288 (fun _ => .func (.func 57) #[] #[.pointer (some ⟨w1.heap.size + 1, 0, none⟩), .pointer (some ⟨w1.heap.size, 0, none⟩)])
      (fun b t => t.length + b ≤ 4000) (fun t b s w => KeptT ob (NdE lo w1) (fvT ob sb) w1 t b s w) := by
  refine goodIT (fun _ _ => by kernel_rfl) (fun t b s w h => fun q hq => h.but.block q hq.2 (fun e => by injection e with e; have := hq.1; have := L.lo; omega)) (fun t b s w h => h.less) (fun b t h => by omega) ?_ ?_
  · intro b t s w a node hok hR ha hg
    refine (ps_vis L b t s w a node hok hR ha hg).mono ?_
    rintro e w' ⟨rfl, h⟩
    refine ⟨_, rfl, ?_⟩
    cases hc : (a.kind.toList == stop.toList)
    · simp only [stV, hc, Bool.false_eq_true, if_false]
      rw [hc] at h
      exact ⟨rfl, by simp; omega, h⟩
    · simp only [stV, hc, if_true]
      rw [hc] at h
      exact ⟨rfl, h⟩
  · intro b t t0 k s0 s w hst hok hR
    have ht : t = t0 ++ [k] := by
      simp only [stV] at hst
      split at hst
      · cases hst
      · exact (Option.some.inj hst).symm
    subst ht
    exact ps_nil L b t0 k s w (by simp at hok; omega) hR

set_option maxRecDepth 100000 in
set_option maxHeartbeats 4000000 in
theorem pstack_any {stop : ByteArray} {ob sb lo : Nat} {w1 : World} (L : LayT stop ob sb lo w1) (hf : w1.frozen? ⟨ob, 0, none⟩ = false) (hc : w1.cell? ⟨ob, 0, none⟩ = some (.slice none 0 0)) {a : Ast} (hg : a.good = true) {v : Value} (ha : At (In lo w1.heap.size) w1 a v) (hsz : 2 * a.xt.size ≤ 4000) :
    Calls Tryz.prog 32 #[v, .slice none 0 0, fvT ob sb] w1 fun e w' => ∃ r, e = .returned r ∧ But ob w1 w' ∧ OutAt ob (w1.heap.size + 2) (stX stop a.xt []) w' := by
  have hW := inspect_T (goodT L) hg ha 0 [] []
  have hb : Bel w1 ((w1.alloc (.cells #[.slice none 0 0] 61)).alloc (.cells #[fvT ob sb] 62)) := (by repeat (first | exact Bel.refl _ | assumption | refine Bel.alloc ?_ _ | refine Bel.drew ?_ | refine Bel.set ?_ (by first | exact Nat.le_refl _ | (simp; done) | (simp; omega)) _))
  have hk1 := Boxed.new w1 61 (.slice none 0 0)
  have hk2 := Boxed.new (w1.alloc (.cells #[.slice none 0 0] 61)) 62 (fvT ob sb)
  rw [World.size_alloc] at hk2
  have hK0 : KeptT ob (NdE lo w1) (fvT ob sb) w1 [] (0 + 2 * a.xt.size) [] ((w1.alloc (.cells #[.slice none 0 0] 61)).alloc (.cells #[fvT ob sb] 62)) := by
    refine ⟨by simp; omega, But.of_bel hb, by simp, ⟨(hb.atf L.obw 0).trans hf, _, [], (hb.at L.obw 0).trans hc, by simpa using World.ownsRow_nil _ _ _ _, rfl, fun i r v h => by simp at h⟩, ⟨_, [], hk1.alloc _, by simpa using World.ownsRow_nil _ _ _ _, fun i v q h => by simp at h⟩, hk2⟩
  have HW := hide (hW _ (by simp; omega) hK0)
  have ck := (hk1.alloc (.cells #[fvT ob sb] 62)).cell
  clear hW hK0 hk1 hk2 hb
  obtain ⟨p, rfl, -⟩ := ha.ptr
  clear ha
  unfold fvT at HW ck ⊢
  go_enter Tryz.func32, Tryz.ntmps32
  go_wp2_with fail
  with_reducible refine Calls.mono HW.out ?_
  rintro e w3 ⟨r3, rfl, hR3⟩
  rw [stV_walk] at hR3
  obtain ⟨kv, vs, hkv, hst, -⟩ := hR3.stk
  obtain ⟨ka, kc, rfl⟩ := own_slice hst
  have ck3 := hkv.cell
  have H := hide (show _ ∧ _ from ⟨hR3.but, hR3.out⟩)
  clear hR3 hkv hst
  go_wp2_with fail
  go_returns
  exact ⟨_, rfl, H.out.1, by simpa using H.out.2⟩

/-- Rows of texts in new blocks. -/
def RowsPost (L : List (List ByteArray)) (w : World) (e : Ending) (w' : World) : Prop := ∃ a c vals, e = .returned (.slice a L.length c) ∧ w'.ownsRow w.heap.size 34 1 (.slice a L.length c) L.length vals ∧ RowsAt w.heap.size w' L vals ∧ Bel w w'
theorem RowsAt.base {B1 B2 : Nat} {w : World} {rows : List (List ByteArray)} {vals : List Value} (h : RowsAt B1 w rows vals) (hB : B2 ≤ B1) : RowsAt B2 w rows vals :=
  ⟨h.1, fun i r v hi hv => by obtain ⟨h1, h2, h3⟩ := h.2 i r v hi hv; exact ⟨h1, h2, ownsRow_base h3 hB⟩⟩

set_option maxRecDepth 100000 in
set_option maxHeartbeats 4000000 in
theorem stacks_impl (n : Nd) (hs : shS n = true) (hm : n.nodes ≤ 400) (stop : ByteArray) (kv : Value) (w : World) (hn : NdK w.heap.size w n kv) (htok : TokTab w) (h0 : 0 < w.heap.size) :
    Calls Tryz.prog 21 #[nodeV n kv, .string stop] w (RowsPost (stX stop (xtN n) []) w) := by
  have hg := bS_good n.nodes n [] (Nat.le_refl _) hm hs
  have hx := bS_xt n.nodes n [] (Nat.le_refl _) hs
  have hsz := (xt_size n).1
  obtain ⟨a, cap, hv, -, -⟩ := hn.slice
  subst hv
  have hb : Bel w (((w.alloc (.cells #[.string n.kind, .string n.text, .slice a n.kids.length cap] 24)).alloc (.cells #[.string stop] 9)).alloc (.cells #[.slice none 0 0] 41)) := (by repeat (first | exact Bel.refl _ | assumption | refine Bel.alloc ?_ _ | refine Bel.drew ?_ | refine Bel.set ?_ (by first | exact Nat.le_refl _ | (simp; done) | (simp; omega)) _))
  have HB := hide (build_b n hs hm (.slice a n.kids.length cap) (((w.alloc (.cells #[.string n.kind, .string n.text, .slice a n.kids.length cap] 24)).alloc (.cells #[.string stop] 9)).alloc (.cells #[.slice none 0 0] 41))
    (hn.later hb) (htok.bel h0 hb) (by simp) [] (.slice none 0 0) (.inl ⟨rfl, rfl⟩))
  clear hn
  unfold nodeV at HB ⊢
  go_enter Tryz.func21, Tryz.ntmps21
  go_wp2_with fail
  with_reducible refine Calls.mono HB.out ?_
  rintro e w1 ⟨node, rfl, ha, hT1⟩
  have hw1 : Bel w w1 := Bel.trans hb hT1
  have z1 := hT1.le
  simp only [World.size_alloc] at z1 ha
  have c1 := hT1.at (b := w.heap.size + 1 + 1) (by simp)
  have f1 := hT1.atf (b := w.heap.size + 1 + 1) (by simp)
  have d1 := hT1.at (b := w.heap.size + 1) (by simp)
  have hc : w1.cell? ⟨w.heap.size + 1 + 1, 0, none⟩ = some (.slice none 0 0) := by rw [c1]; simp [go_sem]
  have hf : w1.frozen? ⟨w.heap.size + 1 + 1, 0, none⟩ = false := by rw [f1]; simp [go_sem]
  have hst : w1.cell? ⟨w.heap.size + 1, 0, none⟩ = some (.string stop) := by rw [d1]; simp [go_sem]
  have L : LayT stop (w.heap.size + 1 + 1) (w.heap.size + 1) (w.heap.size + 1 + 1 + 1) w1 := ⟨by omega, by omega, by omega, by omega, by omega, hst, htok.bel h0 hw1⟩
  have hP := pstack_any L hf hc hg.2 ha (by rw [hx]; omega)
  rw [hx] at hP
  unfold fvT at hP
  have HP := hide hP
  clear hP ha hb hT1 c1 f1 d1
  go_wp2_with fail
  with_reducible refine Calls.mono HP.out ?_
  rintro e w2 ⟨r2, rfl, hbut, -, ov, vals, hsv, hown, hrows⟩
  obtain ⟨oa, oc, rfl⟩ := own_slice hown
  have H := hide (show _ ∧ _ ∧ _ from ⟨hbut, hown, hrows⟩)
  clear hbut hown hrows
  go_wp2_with fail
  go_ret
  exact ⟨_, _, vals, rfl, ownsRow_base H.out.2.1 (by omega), H.out.2.2.base (by omega), H.out.1.bel hw1 (by omega)⟩
end Go.Proofs.YtkkgfgllfbahlaaGreatFmt
