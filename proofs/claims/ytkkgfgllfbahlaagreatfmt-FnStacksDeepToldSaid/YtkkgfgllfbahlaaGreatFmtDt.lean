/- The tree that came in as data: how it lies; that it reads again behind a call that leaves what lay.
What the rows of this seat share: the tokens' table out of what is laid; a start; reading again. -/
import Derived.Test.YtkkgfgllfbahlaaGreatFmtTree
import Derived.ReadAgain
import Derived.ChangeReads
import Derived.ChangeOld
import Derived.ChangeArms
import Derived.ChangeVars
import Derived.DataReads
import Derived.Test.YtkkgfgllfbahlaaGreatFmtRows
import Derived.Test.YtkkgfgllfbahlaaGreatFmtBut
import Derived.ProofKit
import Derived.LaidMore
import Derived.OpenShut
import Derived.Stop.Joined
import Derived.Stop.JoinedAt
import Derived.Stop.JoinedTold
set_option linter.unusedVariables false
set_option linter.unusedSimpArgs false
namespace Go.Proofs.YtkkgfgllfbahlaaGreatFmt
open Go Go.RowKit

theorem kidsP : Kids Tryz.prog (· < Tryz.prog.types.size) := kids_rows (by kernel_rfl) (by kernel_rfl)
theorem fullP : ∀ t e, t < Tryz.prog.types.size → Tryz.prog.underlying t = some (.slice e) → 0 < Tryz.prog.cellsOf e := slices_full_of Tryz.prog (by kernel_rfl)
theorem cellsNode : Tryz.prog.cellsOf 24 = 3 := by kernel_rfl
theorem cellsStr : Tryz.prog.cellsOf 9 = 1 := by kernel_rfl
theorem cellsNodes : Tryz.prog.cellsOf 22 = 1 := by kernel_rfl

theorem addr_add (b o j : Nat) : (⟨b, o, none⟩ : Addr).add j = ⟨b, o + j, none⟩ := by unfold Addr.add; split <;> simp_all
section
variable {H : Type} {enc : TypeId × Value → H}

/-- A row of nodes, each read somewhere. -/
theorem rowK_of {N : Nat} {w : World} {b : Nat} (hb : b < N) : ∀ (ks : List Nd) (o : Nat), (∀ i x, ks[i]? = some x → ∃ v, w.cell? ⟨b, o + 3 * i, none⟩ = some (.string x.kind) ∧ w.cell? ⟨b, o + 3 * i + 1, none⟩ = some (.string x.text) ∧ w.cell? ⟨b, o + 3 * i + 2, none⟩ = some v ∧ NdK N w x v) → RowK N w ks b o
  | [], _, _ => by simp [RowK]
  | k :: ks, o, h => by
    obtain ⟨v, c0, c1, c2, hn⟩ := h 0 k rfl
    simp only [RowK]
    refine ⟨v, hb, c0, c1, c2, hn, rowK_of hb ks (o + 3) fun i x hx => ?_⟩
    obtain ⟨v, c0, c1, c2, hn⟩ := h (i + 1) x (by simpa using hx)
    exact ⟨v, by rw [← c0]; congr 2; omega, by rw [← c1]; congr 2; omega, by rw [← c2]; congr 2; omega, hn⟩
theorem list_of {α : Type} (p : Nat → α → Prop) : ∀ (n : Nat), (∀ i, i < n → ∃ x, p i x) → ∃ l : List α, l.length = n ∧ ∀ i x, l[i]? = some x → p i x
  | 0, _ => ⟨[], rfl, fun i x h => by simp at h⟩
  | n + 1, h => by
    obtain ⟨l, hl, hp⟩ := list_of p n fun i hi => h i (by omega)
    obtain ⟨x, hx⟩ := h n (by omega)
    refine ⟨l ++ [x], by simp [hl], fun i y hy => ?_⟩
    rcases Nat.lt_or_ge i n with hi | hi
    · rw [List.getElem?_append_left (by omega)] at hy
      exact hp i y hy
    · have : i = n := by
        have := (List.getElem?_eq_some_iff.1 hy).1
        simp at this
        omega
      subst this
      rw [List.getElem?_append_right (by omega)] at hy
      simp [hl] at hy
      subst hy
      exact hx

theorem str_of {W : World} {m : Nat} {c : Value} {y : Option (DataW H × List MemPlace)} {z : DataW H × List MemPlace} (h : DataW.trod enc Tryz.prog W 0 (fun _ => true) true m 9 [c] = y) (hy : y = some z) : ∃ s : ByteArray, c = .string s := by
  rw [hy] at h
  obtain ⟨s, hc, -, -⟩ := DataW.trod_string Tryz.underlying9 h
  simp only [List.cons.injEq, and_true] at hc
  exact ⟨s, hc⟩
set_option maxRecDepth 100000 in
/-- The cells of a node that reads. -/
theorem nd_of_trod {W : World} : ∀ (fuel : Nat) (cs : List Value) (x : DataW H × List MemPlace), DataW.trod enc Tryz.prog W 0 (fun _ => true) true fuel 24 cs = some x →
    ∃ n kv, cs = [.string n.kind, .string n.text, kv] ∧ NdK W.heap.size W n kv := by
  intro fuel
  induction fuel using Nat.strongRecOn with
  | ind fuel ih =>
    intro cs x h
    obtain ⟨xs, m, hfu, -, hlen, hxl, hf⟩ := DataW.trod_struct Tryz.underlying24 h
    rw [cellsNode] at hlen
    have hxl : xs.length = 3 := hxl
    match cs, hlen with
    | [c0, c1, c2], _ =>
      have f0 : DataW.trod enc Tryz.prog W 0 (fun _ => true) true m 9 (([c0, c1, c2].drop 0).take (Tryz.prog.cellsOf 9)) = xs[0]? := hf 0 _ rfl
      have f1 : DataW.trod enc Tryz.prog W 0 (fun _ => true) true m 9 (([c0, c1, c2].drop 1).take (Tryz.prog.cellsOf 9)) = xs[1]? := hf 1 _ rfl
      have f2 : DataW.trod enc Tryz.prog W 0 (fun _ => true) true m 22 (([c0, c1, c2].drop 2).take (Tryz.prog.cellsOf 22)) = xs[2]? := hf 2 _ rfl
      rw [cellsStr] at f0 f1
      rw [cellsNodes] at f2
      simp only [List.drop_zero, List.drop_succ_cons, List.take_succ_cons, List.take_zero] at f0 f1 f2
      match xs, hxl with
      | [y0, y1, y2], _ =>
        simp only [List.getElem?_cons_zero, List.getElem?_cons_succ] at f0 f1 f2
        obtain ⟨s0, rfl⟩ := str_of f0 rfl
        obtain ⟨s1, rfl⟩ := str_of f1 rfl
        rcases DataW.trod_slice Tryz.underlying22 f2 with ⟨h0, -⟩ | ⟨a, len, cap, elems, rest, n, hm, h0, -, -, hl, hc, hel, hall, hsp, -⟩
        · simp only [List.cons.injEq, and_true] at h0
          subst h0
          exact ⟨.mk s0 s1 [], _, rfl, by simp only [NdK]; exact .inl ⟨⟨none, 0, rfl, by decide⟩, trivial⟩⟩
        · simp only [List.cons.injEq, and_true] at h0
          subst h0
          rcases Nat.eq_zero_or_pos len with hz | hz
          · subst hz
            exact ⟨.mk s0 s1 [], _, rfl, by simp only [NdK]; exact .inl ⟨⟨some a, cap, rfl, hc⟩, trivial⟩⟩
          · have each : ∀ i, i < len → ∃ z, ∃ cs', W.cells? 0 (a.add (i * 3)) 3 = some cs' ∧ DataW.trod enc Tryz.prog W 0 (fun _ => true) true n 24 cs' = some z := by
              intro i hi
              have := hall i hi
              rw [cellsNode] at this
              obtain ⟨z, hz⟩ : ∃ z, elems[i]? = some z := ⟨elems[i]'(by omega), by simp⟩
              rw [hz, Option.bind_eq_some_iff] at this
              obtain ⟨cs', h1, h2⟩ := this
              exact ⟨z, cs', h1, h2⟩
            obtain ⟨b, o, sp⟩ := a
            have hsp0 : sp = none := by
              obtain ⟨z, cs', h1, -⟩ := each 0 hz
              obtain ⟨-, hl3, hc3⟩ := World.cells?_some h1
              have h3 := hc3 0 (by decide)
              obtain ⟨u, hu⟩ : ∃ u, cs'[0]? = some u := ⟨cs'[0]'(by omega), by simp⟩
              rw [hu] at h3
              simpa [Addr.add] using World.cell?_spot h3
            subst hsp0
            have each2 : ∀ i, i < len → ∃ k : Nd, ∃ v, W.cell? ⟨b, o + 3 * i, none⟩ = some (.string k.kind) ∧ W.cell? ⟨b, o + 3 * i + 1, none⟩ = some (.string k.text) ∧ W.cell? ⟨b, o + 3 * i + 2, none⟩ = some v ∧ NdK W.heap.size W k v := by
              intro i hi
              obtain ⟨z, cs', h1, h2⟩ := each i hi
              obtain ⟨k, v, rfl, hk⟩ := ih n (by omega) cs' z h2
              obtain ⟨-, -, hc3⟩ := World.cells?_some h1
              have e0 := hc3 0 (by decide)
              have e1 := hc3 1 (by decide)
              have e2 := hc3 2 (by decide)
              simp only [addr_add, List.getElem?_cons_zero, List.getElem?_cons_succ, Nat.add_zero] at e0 e1 e2
              rw [Nat.mul_comm] at e0 e1 e2
              exact ⟨k, v, e0, e1, e2, hk⟩
            obtain ⟨ks, hkl, hks⟩ := list_of _ len each2
            have hb : b < W.heap.size := by
              obtain ⟨k, v, c0, -⟩ := each2 0 hz
              exact World.block_lt_of_cell? W _ c0
            refine ⟨.mk s0 s1 ks, _, rfl, ?_⟩
            simp only [NdK]
            exact .inr ⟨b, o, cap, by rw [hkl], by omega, hc, rowK_of hb ks o hks⟩

theorem trodAll_same {w w' : World} {base : Nat} {sp : Nat → Bool} {held : Bool} : ∀ {ts : List TypeId} {vs : List Value} {ds : List (DataW H)} {ps : List MemPlace}, DataW.TrodAll enc Tryz.prog w base sp held ts vs ds ps → (∀ p ∈ ps, w.sameAt w' p) → DataW.TrodAll enc Tryz.prog w' base sp held ts vs ds ps
  | [], [], [], _, h, _ => h
  | _ :: _, _ :: _, _ :: _, _, ⟨p, q, ⟨n, h1⟩, h2, e⟩, hs => ⟨p, q, ⟨n, DataW.trod_carry n _ _ _ h1 fun x hx => hs x (by rw [e]; exact List.mem_append_left _ hx)⟩, trodAll_same h2 fun x hx => hs x (by rw [e]; exact List.mem_append_right _ hx), e⟩
theorem sameAt_bel {w w' : World} (h : Bel w w') {p : MemPlace} (hp : p.block < w.heap.size) : w.sameAt w' p := by
  cases p with
  | cell b off => exact h.cell b off hp
  | map b => exact h.block b hp
theorem var_bel {w w' : World} (h : Bel w w') {name : String} {cs : Array Value} (hv : w.var? Tryz.prog name = some cs) : w'.var? Tryz.prog name = some cs := by
  unfold World.var? at hv ⊢
  rw [Option.bind_eq_some_iff] at hv ⊢
  obtain ⟨g, hg, hv⟩ := hv
  refine ⟨g, hg, ?_⟩
  have hlt : g < w.heap.size := by
    rcases Nat.lt_or_ge g w.heap.size with h1 | h1
    · exact h1
    · rw [Array.getElem?_eq_none h1] at hv; simp at hv
  rw [h.block g hlt]
  exact hv
/-- Variables read again behind a call that leaves what lay. -/
theorem trodVars_bel {w w' : World} (h : Bel w w') : ∀ {ns : List String} {gs : List (DataW H)} {ps : List MemPlace}, (∀ n ∈ ns, ∀ g t, Tryz.prog.globalNamed n = some g → (Tryz.prog.globals[g]?).map (·.type) = some t → t < Tryz.prog.types.size) →
    DataW.TrodVars enc Tryz.prog w (fun _ => true) ns gs ps → (∀ p ∈ ps, p.block < w.heap.size) → DataW.TrodVars enc Tryz.prog w' (fun b => decide (b < w.heap.size)) ns gs ps
  | [], [], _, _, h1, _ => h1
  | _ :: _, _ :: _, _, hT, ⟨g, t, cs, n, p, q, hg, ht, hv, hd, hs, e⟩, hp => by
    have hp2 : ∀ x ∈ p, x.block < w.heap.size := fun x hx => hp x (by rw [e]; simp [hx])
    exact ⟨g, t, cs, n, p, q, hg, ht, var_bel h hv, DataW.trod_carry n _ _ _ (DataW.trod_respare kidsP fullP n t cs.toList _ (hT _ (by simp) g t hg ht) hd (fun x hx => by simpa using hp2 x hx)) (fun x hx => sameAt_bel h (hp2 x hx)),
      trodVars_bel h (fun n hn => hT n (by simp [hn])) hs (fun x hx => hp x (by rw [e]; simp [hx])), e⟩
end
end Go.Proofs.YtkkgfgllfbahlaaGreatFmt

namespace Go.Proofs.YtkkgfgllfbahlaaGreatFmt
open Go Go.RowKit Go.Proofs.YtkkgfgllfbahlaaGreatFmt
open Go.ChangeShapes Go.WideShapes Go.ChangeAt

theorem own : ownKnob Tryz.prog.godebug = none := by kernel_rfl
theorem laidOut : laidOutB Tryz.pinned.checked.prog = true := by kernel_rfl
theorem stopKnobs : Tryz.pinned.checked.prog.stopKnobs = [] := by kernel_rfl
theorem quietS (os : Os) : Stop.quiet Tryz.pinned.checked.prog os := by
  intro k hk
  rw [stopKnobs] at hk
  cases hk
theorem gTok : Tryz.prog.globalNamed "loop.example/pub-gostatements/pub/goparse_go_token.tokens" = some 0 := by kernel_rfl
theorem tTok : (Tryz.prog.globals[0]?).map (·.type) = some 291 := by kernel_rfl
theorem cells89 : Tryz.prog.cellsOf 291 = 89 := by kernel_rfl
theorem tokDatum {H : Type} : (Rows.laid_loop_example_pub_gostatements_pub_goparse_go_token_tokens : DataW H) = .agg (tokL.map fun l => .lit (.string l)) := rfl
theorem tokL_len : tokL.length = 89 := rfl

set_option maxRecDepth 100000 in
/-- WHAT IS LAID GIVES THE TABLE. -/
theorem tok_of_laid {W : World} (h : laidMetH Tryz.prog Rows.fnExactVisitsRow.laid W) : TokTab W := by
  rw [MakeChecks.laidMetH_plain _ _ _ (by kernel_rfl)] at h
  obtain ⟨ps, ⟨g0, t0, cs0, f0, p0, q0, hg0, ht0, hv0, hd0, ⟨g1, t1, cs1, f1, p1, q1, hg1, ht1, hv1, hd1, ⟨g2, t2, cs2, f2, p2, q2, hg2, ht2, hv2, hd2, ⟨g3, t3, cs3, f3, p3, q3, hg3, ht3, hv3, hd3, _, _⟩, _⟩, _⟩, _⟩, _⟩ := h
  obtain rfl := Option.some.inj (gTok.symm.trans hg3)
  obtain rfl := Option.some.inj (tTok.symm.trans ht3)
  obtain ⟨xs, m, rfl, hx, hlen, hn, hel⟩ := DataW.trod_array Tryz.underlying291 hd3
  rw [cells89] at hlen
  simp only [Prod.mk.injEq] at hx
  have hx1 := hx.1
  intro t ht
  have h1 := hel t ht
  rw [cellsStr, Nat.mul_one] at h1
  obtain ⟨z, hz⟩ : ∃ z, xs[t]? = some z := ⟨xs[t]'(by omega), by simp⟩
  rw [hz] at h1
  obtain ⟨s, hc, hzs, -⟩ := DataW.trod_string Tryz.underlying9 h1
  have hxt : (tokL.map fun l => (DataW.lit (.string l) : DataW Unit))[t]? = some z.1 := by
    have e : (tokL.map fun l => (DataW.lit (.string l) : DataW Unit)) = xs.map (·.1) := by
      have := tokDatum (H := Unit) ▸ hx1
      injection this
    rw [e, List.getElem?_map, hz]
    rfl
  rw [List.getElem?_map] at hxt
  obtain ⟨l, hl, hlz⟩ := Option.map_eq_some_iff.1 hxt
  rw [hzs] at hlz
  injection hlz with hlz
  injection hlz with hlz
  have hcell := World.var?_cell gTok hv3 t
  have hct : cs3[t]? = some (.string s) := by
    have : cs3.toList[t]? = some (.string s) := by
      have h2 : ((cs3.toList.drop t).take 1)[0]? = some (.string s) := by rw [hc]; rfl
      rw [List.getElem?_take, List.getElem?_drop] at h2
      simpa using h2
    simpa using this
  rw [hcell, hct]
  have hs : s = tokC t := by
    unfold tokC
    rw [List.getD_eq_getElem?_getD, hl, Option.getD_some, hlz]
  rw [hs]

/-- The door's own heap meets the condition. -/
theorem door_met (os : Os) (args : Array Value) : laidMetH Tryz.prog Rows.fnExactVisitsRow.laid ((World.doorLaid Tryz.prog 400 os).forCall (fun _ _ => 0) ⟨#[], args, []⟩).memory :=
  laidMetH_of_parts3 (fuel := 8) (laidMet_of_run' 8 (by kernel_rfl) (by kernel_rfl)) (by kernel_rfl) (by kernel_rfl)
theorem trodAll2 {H : Type} {enc : TypeId × Value → H} {w : World} {base : Nat} {sp : Nat → Bool} {held : Bool} {t t' : TypeId} {vs : List Value} {ds : List (DataW H)} {ps : List MemPlace} (h : DataW.TrodAll enc Tryz.prog w base sp held [t, t'] vs ds ps) :
    ∃ v v' d d' p q, vs = [v, v'] ∧ ds = [d, d'] ∧ DataW.Trod enc Tryz.prog w base sp held t v d p ∧ DataW.Trod enc Tryz.prog w base sp held t' v' d' q := by
  match vs, ds, h with
  | [v, v'], [d, d'], ⟨p, q, h1, ⟨p', q', h2, h3, e'⟩, e⟩ => exact ⟨v, v', d, d', p, p', rfl, rfl, h1, h2⟩
  | [], _, h => cases h
  | [_], [_], ⟨_, _, _, h, _⟩ => cases h
  | [_], [_, _], ⟨_, _, _, h, _⟩ => cases h
  | _ :: _ :: _ :: _, _ :: _ :: _, ⟨_, _, _, ⟨_, _, _, h, _⟩, _⟩ => cases h
/-- WHAT A FUNCTION THAT LEAVES WHAT LAY, AND ANSWERS true, LEAVES. -/
theorem post_true {H : Type} {enc : TypeId × Value → H} {fn : Func} {s : ChangeSpec} {W W' : World} {args : Array Value} {ds gs : List (DataW H)} {before : List MemPlace} (hb : Bel W W')
    (hW : DataW.Whole enc Tryz.prog fn.params.toList s.vars false W args.toList ds gs before) (hr : fn.resultTypes = #[4]) (hp : ∀ t ∈ fn.params.toList, t < Tryz.prog.types.size) (hv : s.vars = ["loop.example/pub-gostatements/pub/goparse_go_token.tokens"])
    (hfn : s.fn H (ds ++ gs) = { results := [.lit (.bool true)], args := ds, vars := gs }) :
    s.post enc Tryz.prog fn false true false false W args (.bool true) W' := by
  have hWW := hW
  have hlt := hW.lt
  obtain ⟨p, q, hA, hV, rfl, -, -⟩ := hW
  refine ⟨ds, gs, _, [], p, q, hWW, ?_, ?_, ?_, ?_, fun h => by cases h⟩
  · rw [hfn, hr]
    exact ⟨[], [], ⟨1, by simp [DataW.trod, Tryz.underlying4, Value.cells]⟩, rfl, rfl⟩
  · rw [hfn]
    exact trodAll_same (DataW.TrodAll.respare kidsP fullP hp hA fun x hx => by simpa using hlt x (by simp [hx])) fun x hx => sameAt_bel hb (hlt x (by simp [hx]))
  · rw [hfn]
    rw [hv] at hV ⊢
    refine trodVars_bel hb ?_ hV fun x hx => hlt x (by simp [hx])
    intro n hn g t hg ht
    simp at hn
    subst hn
    obtain rfl := Option.some.inj (gTok.symm.trans hg)
    obtain rfl := Option.some.inj (tTok.symm.trans ht)
    exact of_decide_eq_true (by kernel_rfl)
  · exact World.keptBut_mono (fun _ h => h) (Below.frame hb _)
end Go.Proofs.YtkkgfgllfbahlaaGreatFmt
