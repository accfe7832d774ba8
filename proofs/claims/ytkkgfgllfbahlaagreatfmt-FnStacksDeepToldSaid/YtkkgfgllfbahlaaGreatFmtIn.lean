/- ast.Inspect with a closure of whatever code: what is asked of the closure; inspector's Visit keeps what the closure keeps; Inspect answers.
impl.Events: what its closure keeps; Events answers evX. -/
import Derived.Test.YtkkgfgllfbahlaaGreatFmtWd
import Derived.Test.YtkkgfgllfbahlaaGreatFmtCvA
import Derived.Test.YtkkgfgllfbahlaaGreatFmtVi
import Derived.Test.YtkkgfgllfbahlaaGreatFmtBEs
import Derived.Test.YtkkgfgllfbahlaaGreatFmtBU
import Derived.Deep.AppendLies
set_option linter.unusedVariables false
set_option linter.unusedSimpArgs false
namespace Go.Proofs.YtkkgfgllfbahlaaGreatFmt
open Go Go.RowKit
set_option linter.unusedSimpArgs false

/-- A closure over nodes, as a plain function: what it answers, and what it keeps. -/
structure Clo where
  S : Type
  step : Option ByteArray → S → Bool × S
@[reducible] def visF (F : Clo) : Vis := ⟨Unit, F.S, fun _ => .nilIface, fun _ k s => (if (F.step k s).1 = true then some () else none, (F.step k s).2)⟩
/-- What is asked of the closure: R b s w: it has kept s in w, and may be called b times more. -/
structure GoodF (F : Clo) (D : Nat → Prop) (w0 : World) (f : FuncId) (lb : Array Value) (R : Nat → F.S → World → Prop) : Prop where
  enters : ∀ args W, (callFunc f args).run Tryz.prog W = .ok (.enter f args) W
  mid : ∀ b s w, R b s w → Mid D w0 w
  mono : ∀ b s w, R (b + 1) s w → R b s w
  vis : ∀ b s w a node, R (b + 1) s w → At D w0 a node → a.good = true → Calls Tryz.prog f (#[node] ++ lb) w fun e w' => e = .returned (.bool (F.step (some a.kind) s).1) ∧ R b (F.step (some a.kind) s).2 w'
  nil : ∀ b s w, R (b + 1) s w → Calls Tryz.prog f (#[.nilIface] ++ lb) w fun e w' => e = .returned (.bool (F.step none s).1) ∧ R b (F.step none s).2 w'

set_option maxRecDepth 100000 in
set_option maxHeartbeats 4000000 in
/-- The inspector's Visit asks the closure. -/
theorem inspector_visit (f : FuncId) (lb : Array Value) (hft : ∀ args W, (callFunc f args).run Tryz.prog W = .ok (.enter f args) W) (node : Value) (w : World) (Q : Bool → World → Prop)
    (h : Calls Tryz.prog f (#[node] ++ lb) w fun e w' => ∃ c, e = .returned (.bool c) ∧ Q c w') :
    Calls Tryz.prog 288 #[.func (.func f) #[] lb, node] w fun e w' => ∃ c, e = .returned (if c = true then .iface 260 (.func (.func f) #[] lb) else .nilIface) ∧ Q c w' := by
  have H := hide h
  clear h
  go_enter Tryz.func288, Tryz.ntmps288
  go_wp2_with fail
  refine H.out.mono ?_
  rintro e w1 ⟨c, rfl, hQ⟩
  cases c
  · go_wp2_with fail
    go_ret
    exact ⟨false, rfl, hQ⟩
  · go_wp2_with fail
    go_ret
    exact ⟨true, rfl, hQ⟩

theorem goodI {F : Clo} {D : Nat → Prop} {w0 : World} {f : FuncId} {lb : Array Value} {R : Nat → F.S → World → Prop} (G : GoodF F D w0 f lb R) :
    GoodG (visF F) D w0 260 288 (fun _ => .func (.func f) #[] lb) (fun _ _ => True) (fun _ => R) := by
  refine ⟨fun _ _ _ => by kernel_rfl, fun _ _ => by kernel_rfl, fun _ => G.mid, fun _ => G.mono, fun _ _ _ => trivial, ?_, ?_⟩
  · intro b t s w a node _ hR ha hg
    refine (inspector_visit f lb G.enters node w (fun c w' => c = (F.step (some a.kind) s).1 ∧ R b (F.step (some a.kind) s).2 w') ((G.vis b s w a node hR ha hg).mono ?_)).mono ?_
    · rintro e w' ⟨rfl, h⟩
      exact ⟨_, rfl, rfl, h⟩
    · rintro e w' ⟨c, rfl, rfl, h⟩
      unfold VisPost
      simp only [visF]
      by_cases hc : (F.step (some a.kind) s).1 = true
      · simp only [hc, if_true]
        exact ⟨trivial, trivial, h⟩
      · simp only [hc, if_false]
        exact ⟨by simp, h⟩
  · intro b t t0 k0 s0 s w _ _ hR
    refine (inspector_visit f lb G.enters .nilIface w (fun c w' => c = (F.step none s).1 ∧ R b (F.step none s).2 w') ((G.nil b s w hR).mono ?_)).mono ?_
    · rintro e w' ⟨rfl, h⟩
      exact ⟨_, rfl, rfl, h⟩
    · rintro e w' ⟨c, rfl, rfl, h⟩
      exact ⟨_, rfl, h⟩

set_option maxRecDepth 100000 in
set_option maxHeartbeats 4000000 in
/-- Inspect answers. -/
theorem inspect_any {F : Clo} {D : Nat → Prop} {w0 : World} {f : FuncId} {lb : Array Value} {R : Nat → F.S → World → Prop} (G : GoodF F D w0 f lb R) {a : Ast} (hg : a.good = true) {v : Value} (ha : At D w0 a v)
    (b : Nat) (s : F.S) (w : World) (hR : R (b + 2 * a.xt.size) s w) :
    Calls Tryz.prog 28 #[v, .func (.func f) #[] lb] w fun e w' => ∃ r, e = .returned r ∧ R b (walkX (visF F) a.xt () s) w' := by
  have HW := hide (walk_any (goodI G) hg ha b () s w trivial hR)
  clear hR ha
  go_enter Tryz.func28, Tryz.ntmps28
  go_wp2_with fail
  with_reducible refine Calls.mono HW.out ?_
  rintro e w1 ⟨r1, rfl, hR1⟩
  go_wp2_with fail
  go_returns
  exact ⟨_, rfl, hR1⟩

/-- The inspector over a closure that keeps a state of its own on the way down. -/
theorem goodIT {V : Vis} {D : Nat → Prop} {w0 : World} {f : FuncId} {lb : Array Value} {ok : Nat → V.T → Prop} {R : V.T → Nat → V.S → World → Prop}
    (henters : ∀ args W, (callFunc f args).run Tryz.prog W = .ok (.enter f args) W) (hmid : ∀ t b s w, R t b s w → Mid D w0 w) (hmono : ∀ t b s w, R t (b + 1) s w → R t b s w) (hokm : ∀ b t, ok (b + 1) t → ok b t)
    (hvis : ∀ b t s w a node, ok (b + 1) t → R t (b + 1) s w → At D w0 a node → a.good = true → Calls Tryz.prog f (#[node] ++ lb) w fun e w' => ∃ c, e = .returned (.bool c) ∧ match V.step t (some a.kind) s with
      | (none, s') => c = false ∧ R t b s' w'
      | (some t', s') => c = true ∧ ok b t' ∧ R t' b s' w')
    (hnil : ∀ b t t0 k s0 s w, (V.step t0 (some k) s0).1 = some t → ok (b + 1) t → R t (b + 1) s w → Calls Tryz.prog f (#[.nilIface] ++ lb) w fun e w' => ∃ c, e = .returned (.bool c) ∧ R t0 b (V.step t none s).2 w') :
    GoodG V D w0 260 288 (fun _ => .func (.func f) #[] lb) ok R := by
  refine ⟨fun _ _ _ => by kernel_rfl, fun _ _ => by kernel_rfl, hmid, hmono, hokm, ?_, ?_⟩
  · intro b t s w a node hok hR ha hg
    refine (inspector_visit f lb henters node w _ (hvis b t s w a node hok hR ha hg)).mono ?_
    rintro e w' ⟨c, rfl, h⟩
    unfold VisPost
    rcases hst : V.step t (some a.kind) s with ⟨_ | t1, s1⟩
    · rw [hst] at h
      obtain ⟨rfl, h⟩ := h
      exact ⟨rfl, h⟩
    · rw [hst] at h
      obtain ⟨rfl, h⟩ := h
      exact ⟨rfl, h⟩
  · intro b t t0 k s0 s w hst hok hR
    refine (inspector_visit f lb henters .nilIface w _ (hnil b t t0 k s0 s w hst hok hR)).mono ?_
    rintro e w' ⟨c, rfl, h⟩
    exact ⟨_, rfl, h⟩
set_option maxRecDepth 100000 in
set_option maxHeartbeats 4000000 in
theorem inspect_T {V : Vis} {D : Nat → Prop} {w0 : World} {f : FuncId} {lb : Array Value} {ok : Nat → V.T → Prop} {R : V.T → Nat → V.S → World → Prop}
    (G : GoodG V D w0 260 288 (fun _ => .func (.func f) #[] lb) ok R) {a : Ast} (hg : a.good = true) {v : Value} (ha : At D w0 a v)
    (b : Nat) (t : V.T) (s : V.S) (w : World) (hok : ok (b + 2 * a.xt.size) t) (hR : R t (b + 2 * a.xt.size) s w) :
    Calls Tryz.prog 28 #[v, .func (.func f) #[] lb] w fun e w' => ∃ r, e = .returned r ∧ R t b (walkX V a.xt t s) w' := by
  have HW := hide (walk_any G hg ha b t s w hok hR)
  clear hR ha
  go_enter Tryz.func28, Tryz.ntmps28
  go_wp2_with fail
  with_reducible refine Calls.mono HW.out ?_
  rintro e w1 ⟨r1, rfl, hR1⟩
  go_wp2_with fail
  go_returns
  exact ⟨_, rfl, hR1⟩
end Go.Proofs.YtkkgfgllfbahlaaGreatFmt

namespace Go.Proofs.YtkkgfgllfbahlaaGreatFmt
open Go Go.RowKit
set_option linter.unusedSimpArgs false

abbrev strs (s : List ByteArray) : List Value := s.map fun x => .string x
theorem info_str : (Tryz.prog.info? 9).map (fun i => (i.zero, i.size, i.bytes)) = some (some (.string ⟨#[]⟩), 1, 16) := by kernel_rfl
theorem under_strs : Tryz.prog.underlying 34 = some (.slice 9) := by kernel_rfl
/-- The closure of Events. -/
@[reducible] def evF (stop : ByteArray) : Clo := ⟨List ByteArray, fun k s => (!((k.getD ⟨#[]⟩).toList == stop.toList), s ++ [k.getD ⟨#[]⟩])⟩
theorem toList_ne {k stop : ByteArray} (h : ¬ k = stop) : (k.toList == stop.toList) = false := by
  cases h2 : (k.toList == stop.toList)
  · rfl
  · exact absurd ((ba_of (beq_iff_eq.1 h2)).trans (ba_of rfl).symm) h
theorem evF_some (stop k : ByteArray) (ks : List XT) (s : List ByteArray) : walkX (visF (evF stop)) (.mk k ks) () s = if k = stop then s ++ [k] else (walkXs (visF (evF stop)) ks () (s ++ [k]) : List ByteArray) ++ [⟨#[]⟩] := by
  unfold walkX
  by_cases h : k = stop
  · subst h
    simp [visF, evF]
  · simp [visF, evF, toList_ne h, h]
mutual
theorem evF_walk (stop : ByteArray) : ∀ (x : XT) (s : List ByteArray), walkX (visF (evF stop)) x () s = s ++ evX stop x
  | .mk k ks, s => by
    rw [evF_some, evX]
    split
    · rfl
    · rw [evF_walks stop ks (s ++ [k])]
      simp
theorem evF_walks (stop : ByteArray) : ∀ (xs : List XT) (s : List ByteArray), walkXs (visF (evF stop)) xs () s = s ++ evXs stop xs
  | [], s => by
    unfold walkXs evXs
    exact (List.append_nil s).symm
  | x :: r, s => by
    unfold walkXs evXs
    exact (evF_walks stop r _).trans (by rw [evF_walk stop x s, List.append_assoc])
end
mutual
theorem evX_len (stop : ByteArray) : ∀ x : XT, (evX stop x).length ≤ 2 * x.size
  | .mk k ks => by
    have := evXs_len stop ks
    rw [evX, XT.size]
    split
    · simp; omega
    · simp; omega
theorem evXs_len (stop : ByteArray) : ∀ xs : List XT, (evXs stop xs).length ≤ 2 * sizeXs xs
  | [] => by simp [evXs]
  | x :: r => by
    have := evX_len stop x
    have := evXs_len stop r
    rw [evXs, sizeXs, List.length_append]
    omega
end

/-- What has been kept lies behind ob, in rows from wa on; the text at which to stop lies at sb; all else lies as in wa. -/
def KeptS (ob : Nat) (wa : World) (b : Nat) (s : List ByteArray) (w : World) : Prop :=
  s.length + b ≤ 4000 ∧ w.frozen? ⟨ob, 0, none⟩ = false ∧ But ob wa w ∧ ∃ sv, w.cell? ⟨ob, 0, none⟩ = some sv ∧ w.ownsRow wa.heap.size 9 1 sv s.length (strs s)
theorem KeptS.bel {ob : Nat} {wa : World} {b : Nat} {s : List ByteArray} {w w1 : World} (h : KeptS ob wa b s w) (hob : ob < wa.heap.size) (hb : Bel w w1) : KeptS ob wa b s w1 := by
  obtain ⟨hl, hfr, hbut, sv, hsv, hown⟩ := h
  have z0 := hbut.le
  have hobw : ob < w.heap.size := by omega
  exact ⟨hl, (hb.atf hobw 0).trans hfr, hbut.trans (But.of_bel hb), sv, (hb.at hobw 0).trans hsv, ownsRow_bel hown hb⟩
theorem KeptS.snoc {ob : Nat} {wa : World} {b : Nat} {s : List ByteArray} {x : ByteArray} {w WB w4 : World} {sv : Value} {g cap4 : Nat} (hob : ob < wa.heap.size) (hl : s.length + (b + 1) ≤ 4000) (hfr : w.frozen? ⟨ob, 0, none⟩ = false) (hbut : But ob wa w) (hsv : w.cell? ⟨ob, 0, none⟩ = some sv)
    (hown : w.ownsRow wa.heap.size 9 1 sv s.length (strs s)) (hb : Bel w WB)
    (hown4 : w4.ownsRow wa.heap.size 9 1 (.slice (some ⟨g, 0, none⟩) (s.length + 1) cap4) (s.length + 1) (strs s ++ [.string x])) (hgrow4 : WB.grownBy w4 sv.ownBlock) :
    KeptS ob wa b (s ++ [x]) (w4.setCell ⟨ob, 0, none⟩ (.slice (some ⟨g, 0, none⟩) (s.length + 1) cap4)) := by
  have z0 := hbut.le
  have z1 := hb.le
  have hne : sv.ownBlock ≠ some ob := fun e => by have := (hown.lt ob e).1; omega
  have hgb : wa.heap.size ≤ g := (hown4.lt g rfl).1
  have hc : w4.heap[ob]? = w.heap[ob]? := (hgrow4.block ob (by omega) (fun e => hne e.symm)).trans (hb.block ob (by omega))
  refine ⟨by simp; omega, ?_, ?_, _, World.cell?_setCell_same' _ _ _ ?_, ?_⟩
  · rw [World.frozen?_setCell]; exact (World.frozen?_of_block hc).trans hfr
  · exact (((hbut.trans (But.of_bel hb)).grow hgrow4 (fun k hk => by have := (hown.lt k hk).1; omega))).set _ _
  · rw [World.cell?_of_block hc, hsv]; rfl
  · have e1 : (s ++ [x]).length = s.length + 1 := by simp
    have e2 : strs (s ++ [x]) = strs s ++ [.string x] := by simp [strs]
    rw [e1, e2]
    exact hown4.kept (row := some ob) ⟨rfl, rfl, rfl, by simp [World.setCell], fun k hk hk2 => Below.heap_setCell w4 _ _ k (fun e => hk2 (by rw [e]))⟩ (Or.inr fun e => by
      have e : g = ob := by simpa [Value.ownBlock] using e
      omega)
theorem KeptS.mid {ob : Nat} {wa : World} {b : Nat} {s : List ByteArray} {w : World} (h : KeptS ob wa b s w) {lo hi : Nat} (hlo : ob < lo) (hhi : hi ≤ wa.heap.size) : Mid (In lo hi) wa w := fun k hk => h.2.2.1.block k (by have := hk.2; omega) (fun e => by injection e with e; have := hk.1; omega)
theorem KeptS.tok {ob : Nat} {wa : World} {b : Nat} {s : List ByteArray} {w : World} (h : KeptS ob wa b s w) (hob : ob < wa.heap.size) (hob0 : 0 < ob) (htok : TokTab wa) : TokTab w := fun t ht => (World.cell?_of_block (h.2.2.1.block 0 (by omega) (fun e => by injection e; omega))).trans (htok t ht)

set_option maxRecDepth 100000 in
set_option maxHeartbeats 4000000 in
theorem events_closure (stop : ByteArray) (ob sb : Nat) (wa : World) (hob : ob < wa.heap.size) (hsb : sb < wa.heap.size) (hne : ¬ sb = ob) (hst : wa.cell? ⟨sb, 0, none⟩ = some (.string stop)) (k : ByteArray) (node : Value) (b : Nat) (s : List ByteArray) (w : World) (hR : KeptS ob wa (b + 1) s w)
    (hK : ∀ W, Bel w W → Calls Tryz.prog 30 #[node] W fun e w' => e = .returned (.string k) ∧ Bel W w') :
    Calls Tryz.prog 29 #[node, .pointer (some ⟨ob, 0, none⟩), .pointer (some ⟨sb, 0, none⟩)] w fun e w' => e = .returned (.bool (!(k.toList == stop.toList))) ∧ KeptS ob wa b (s ++ [k]) w' := by
  obtain ⟨hl, hfr, hbut, sv, hsv, hown⟩ := hR
  obtain ⟨i0, hi, hz0, hz1, hz2⟩ := info_parts info_str
  obtain ⟨sa, sc, rfl⟩ := own_slice hown
  have z0 := hbut.le
  have hobw : ob < w.heap.size := by omega
  have hsbw : sb < w.heap.size := by omega
  have hstw : w.cell? ⟨sb, 0, none⟩ = some (.string stop) := (World.cell?_of_block (hbut.block sb hsb (fun e => hne (by injection e)))).trans hst
  have hne2 : ¬ ob = sb := fun e => hne e.symm
  have HK := hide hK
  have HO := hide hown
  clear hK hown hst
  go_enter Tryz.func29, Tryz.ntmps29
  go_wp2_with fail
  with_reducible refine Calls.mono (HK.out _ ?_) ?_
  · exact (by repeat (first | exact Bel.refl _ | assumption | refine Bel.alloc ?_ _ | refine Bel.drew ?_ | refine Bel.set ?_ (by first | exact Nat.le_refl _ | (simp; done) | (simp; omega)) _))
  rintro e w1 ⟨rfl, hT1⟩
  have hw1 : Bel w w1 := Bel.trans (by repeat (first | exact Bel.refl _ | assumption | refine Bel.alloc ?_ _ | refine Bel.drew ?_ | refine Bel.set ?_ (by first | exact Nat.le_refl _ | (simp; done) | (simp; omega)) _)) hT1
  have z1 := hw1.le
  have c1_1 := hw1.at (b := ob) hobw
  have f1_1 := hw1.atf (b := ob) hobw
  have c1_2 := hw1.at (b := sb) hsbw
  have l1_1 : ob < w1.heap.size := by omega
  have n1_1 : ¬ ob = w1.heap.size := by omega
  have m1_1 : ¬ w1.heap.size = ob := by omega
  have l1_2 : sb < w1.heap.size := by omega
  have n1_2 : ¬ sb = w1.heap.size := by omega
  have m1_2 : ¬ w1.heap.size = sb := by omega
  have hB : Bel w (w1.alloc (.cells #[.string k] 9)) := (by repeat (first | exact Bel.refl _ | assumption | refine Bel.alloc ?_ _ | refine Bel.drew ?_ | refine Bel.set ?_ (by first | exact Nat.le_refl _ | (simp; done) | (simp; omega)) _))
  have hno2 : (Value.slice sa s.length sc).ownBlock ≠ some ob := fun e => by have := (HO.out.lt _ e).1; omega
  have hno3 : (Value.slice sa s.length sc).ownBlock ≠ some sb := fun e => by have := (HO.out.lt _ e).1; omega
  have HB := hide hB
  have HN := hide (show _ ∧ _ from ⟨hno2, hno3⟩)
  clear hB hno2 hno3
  go_wp2_with (first
    | (at_builtin
       refine wpList_append_lies _ rfl _ _ 34 rfl wa.heap.size 9 i0 _ 1 16 under_strs hi hz0 hz1 hz2 rfl (by decide) (.slice sa s.length sc) s.length (strs s) rfl (ownsRow_bel HO.out HB.out) ⟨w1.heap.size, 0, none⟩ 1 1 [.string k] rfl rfl (World.news_of_block (heap_alloc_new w1 (.cells #[.string k] 9))) (fun u hu => by simp at hu; rcases hu with rfl; rfl) (by decide) (by unfold maxLen; omega) (by omega) (by simp; omega) _ rfl ?_
       intro g4 cap4 w4 hown4 hgrow4 hat4 hlt4
       have c4_1 : ∀ j, w4.cell? ⟨ob, j, none⟩ = (w1.alloc (.cells #[.string k] 9)).cell? ⟨ob, j, none⟩ := fun j => World.cell?_of_block (hgrow4.block ob (by simp; omega) (fun e => HN.out.1 e.symm))
       have c4_2 : ∀ j, w4.cell? ⟨sb, j, none⟩ = (w1.alloc (.cells #[.string k] 9)).cell? ⟨sb, j, none⟩ := fun j => World.cell?_of_block (hgrow4.block sb (by simp; omega) (fun e => HN.out.2 e.symm))
       have f4_1 : ∀ j, w4.frozen? ⟨ob, j, none⟩ = (w1.alloc (.cells #[.string k] 9)).frozen? ⟨ob, j, none⟩ := fun j => World.frozen?_of_block (hgrow4.block ob (by simp; omega) (fun e => HN.out.1 e.symm))
       have HG := hide (show _ ∧ _ from ⟨hown4, hgrow4⟩)
       clear hown4 hgrow4 hat4))
  go_ret
  obtain ⟨hown4, hgrow4⟩ := HG.out
  exact ⟨by simp, KeptS.snoc hob hl hfr hbut hsv HO.out HB.out hown4 hgrow4⟩

/-- The closure of Events is as asked. -/
theorem goodE (stop : ByteArray) (ob sb : Nat) (wa : World) (lo hi : Nat) (hob : ob < wa.heap.size) (hob0 : 0 < ob) (hsb : sb < wa.heap.size) (hne : ¬ sb = ob) (hst : wa.cell? ⟨sb, 0, none⟩ = some (.string stop)) (hlo : ob < lo) (hhi : hi ≤ wa.heap.size) (htok : TokTab wa) :
    GoodF (evF stop) (In lo hi) wa 29 #[.pointer (some ⟨ob, 0, none⟩), .pointer (some ⟨sb, 0, none⟩)] (KeptS ob wa) := by
  refine ⟨fun _ _ => by kernel_rfl, fun b s w h => h.mid hlo hhi, fun b s w h => ⟨by have := h.1; omega, h.2⟩, ?_, ?_⟩
  · intro b s w a node hR ha hg
    have hsz := hR.2.2.1.le
    have hS : ∀ k, In lo hi k → k < w.heap.size := fun k hk => by have := hk.2; omega
    have haw : At (In lo hi) w a node := ha.stay (fun _ h => h) (hR.mid hlo hhi)
    have h0 : 0 < w.heap.size := by omega
    exact events_closure stop ob sb wa hob hsb hne hst a.kind node b s w hR fun W hb => kindOf_any a hg (haw.stay (fun _ h => h) (hb.mid hS)) (fun k hk => Nat.lt_of_lt_of_le (hS k hk) hb.le) ((hR.tok hob hob0 htok).bel h0 hb) (Nat.lt_of_lt_of_le h0 hb.le)
  · intro b s w hR
    refine events_closure stop ob sb wa hob hsb hne hst ⟨#[]⟩ .nilIface b s w hR fun W hb => (kindOf_nil W).mono ?_
    rintro e w' ⟨rfl, rfl⟩
    exact ⟨rfl, Bel.refl _⟩

/-- A row of texts in new blocks. -/
def StrPost (L : List ByteArray) (w : World) (e : Ending) (w' : World) : Prop := ∃ a c, e = .returned (.slice a L.length c) ∧ w'.ownsRow w.heap.size 9 1 (.slice a L.length c) L.length (strs L) ∧ Bel w w'

set_option maxRecDepth 100000 in
set_option maxHeartbeats 4000000 in
theorem events_impl (n : Nd) (hs : shS n = true) (hm : n.nodes ≤ 400) (stop : ByteArray) (kv : Value) (w : World) (hn : NdK w.heap.size w n kv) (htok : TokTab w) (h0 : 0 < w.heap.size) :
    Calls Tryz.prog 15 #[nodeV n kv, .string stop] w (StrPost (evX stop (xtN n)) w) := by
  have hg := bS_good n.nodes n [] (Nat.le_refl _) hm hs
  have hx := bS_xt n.nodes n [] (Nat.le_refl _) hs
  have hsz := (xt_size n).1
  have hxv : walkX (visF (evF stop)) (xtN n) () ([] : List ByteArray) = evX stop (xtN n) := by simpa using evF_walk stop (xtN n) []
  obtain ⟨a, cap, hv, -, -⟩ := hn.slice
  subst hv
  have hb : Bel w (((w.alloc (.cells #[.string n.kind, .string n.text, .slice a n.kids.length cap] 24)).alloc (.cells #[.string stop] 9)).alloc (.cells #[.slice none 0 0] 34)) := (by repeat (first | exact Bel.refl _ | assumption | refine Bel.alloc ?_ _ | refine Bel.drew ?_ | refine Bel.set ?_ (by first | exact Nat.le_refl _ | (simp; done) | (simp; omega)) _))
  have HB := hide (build_b n hs hm (.slice a n.kids.length cap) (((w.alloc (.cells #[.string n.kind, .string n.text, .slice a n.kids.length cap] 24)).alloc (.cells #[.string stop] 9)).alloc (.cells #[.slice none 0 0] 34))
    (hn.later hb) (htok.bel h0 hb) (by simp) [] (.slice none 0 0) (.inl ⟨rfl, rfl⟩))
  clear hn
  unfold nodeV at HB ⊢
  go_enter Tryz.func15, Tryz.ntmps15
  go_wp2_with fail
  with_reducible refine Calls.mono HB.out ?_
  rintro e w1 ⟨node, rfl, ha, hT1⟩
  have hw1 : Bel w w1 := Bel.trans hb hT1
  have z1 := hT1.le
  simp only [World.size_alloc] at z1 ha
  have c1 := hT1.at (b := w.heap.size + 1 + 1) (by simp)
  have f1 := hT1.atf (b := w.heap.size + 1 + 1) (by simp)
  have d1 := hT1.at (b := w.heap.size + 1) (by simp)
  have hc : w1.cell? ⟨w.heap.size + 1 + 1, 0, none⟩ = some (.slice none 0 0) := by rw [c1]; simp [go_sem]
  have hf : w1.frozen? ⟨w.heap.size + 1 + 1, 0, none⟩ = false := by rw [f1]; simp [go_sem]
  have hst : w1.cell? ⟨w.heap.size + 1, 0, none⟩ = some (.string stop) := by rw [d1]; simp [go_sem]
  have G := goodE stop (w.heap.size + 1 + 1) (w.heap.size + 1) w1 (w.heap.size + 1 + 1 + 1) w1.heap.size (by omega) (by omega) (by omega) (by omega) hst (by omega) (Nat.le_refl _) (htok.bel h0 hw1)
  have hW := inspect_any G hg.2 ha
  rw [hx] at hW
  have hW0 := (hW 0 ([] : List ByteArray) w1 ⟨by simp; omega, hf, But.refl _ _, _, hc, by simpa using World.ownsRow_nil _ _ _ _⟩)
  have HW := hide hW0
  clear hW hW0 G ha hb
  go_wp2_with fail
  with_reducible refine Calls.mono HW.out ?_
  rintro e w2 ⟨r2, rfl, hR2⟩
  rw [hxv] at hR2
  obtain ⟨hl, hfr, hbut, sv, hsv, hown⟩ := hR2
  obtain ⟨sa, sc, rfl⟩ := own_slice hown
  have HO := hide hown
  clear hown
  go_wp2_with fail
  go_ret
  exact ⟨_, _, rfl, ownsRow_base HO.out (by omega), hbut.bel hw1 (by omega)⟩
end Go.Proofs.YtkkgfgllfbahlaaGreatFmt
