/- Preorder, stacks and the balance of events as plain functions; no program in sight. -/
import Derived.Test.YtkkgfgllfbahlaaGreatFmtXt
set_option linter.unusedVariables false
set_option linter.unusedSimpArgs false
namespace Go.Proofs.YtkkgfgllfbahlaaGreatFmt
open Go Go.RowKit
set_option linter.unusedSimpArgs false

mutual
/-- The kinds ahead of those below. -/
def preX : XT → List ByteArray
  | .mk k ks => k :: preXs ks
def preXs : List XT → List ByteArray
  | [] => []
  | x :: r => preX x ++ preXs r
end
mutual
theorem preX_len : ∀ x : XT, (preX x).length = x.size
  | .mk k ks => by rw [preX, XT.size, List.length_cons, preXs_len ks]; omega
theorem preXs_len : ∀ xs : List XT, (preXs xs).length = sizeXs xs
  | [] => by simp [preXs, sizeXs]
  | x :: r => by rw [preXs, sizeXs, List.length_append, preX_len x, preXs_len r]
end
theorem preXs_append : ∀ a b : List XT, preXs (a ++ b) = preXs a ++ preXs b
  | [], b => by simp [preXs]
  | x :: r, b => by simp only [List.cons_append, preXs, preXs_append r b, List.append_assoc]
mutual
/-- The kinds ahead of those below, each behind those above. -/
def stX (stop : ByteArray) : XT → List ByteArray → List (List ByteArray)
  | .mk k ks, up => (up ++ [k]) :: (if k = stop then [] else stXs stop ks (up ++ [k]))
def stXs (stop : ByteArray) : List XT → List ByteArray → List (List ByteArray)
  | [], _ => []
  | x :: r, up => stX stop x up ++ stXs stop r up
end
theorem stXs_append (stop : ByteArray) (up : List ByteArray) : ∀ a b : List XT, stXs stop (a ++ b) up = stXs stop a up ++ stXs stop b up
  | [], b => by simp [stXs]
  | x :: r, b => by simp only [List.cons_append, stXs, stXs_append stop up r b, List.append_assoc]
mutual
theorem stX_len (stop : ByteArray) : ∀ (x : XT) (up : List ByteArray), (stX stop x up).length ≤ x.size
  | .mk k ks, up => by
    have := stXs_len stop ks (up ++ [k])
    rw [stX, XT.size]
    split <;> simp <;> omega
theorem stXs_len (stop : ByteArray) : ∀ (xs : List XT) (up : List ByteArray), (stXs stop xs up).length ≤ sizeXs xs
  | [], _ => by simp [stXs]
  | x :: r, up => by
    have := stX_len stop x up
    have := stXs_len stop r up
    rw [stXs, sizeXs, List.length_append]
    omega
end

mutual
/-- No kind is empty. -/
def neX : XT → Bool
  | .mk k ks => !k.toList.isEmpty && neXs ks
def neXs : List XT → Bool
  | [] => true
  | x :: r => neX x && neXs r
end
theorem neXs_append : ∀ a b : List XT, neXs (a ++ b) = (neXs a && neXs b)
  | [], b => by simp [neXs]
  | x :: r, b => by simp [neXs, neXs_append r b, Bool.and_assoc]
mutual
theorem Ast.xt_ne : ∀ a : Ast, neX a.xt = true
  | .ident _ _ => by simp [Ast.xt, neX, neXs, neXs_append]
  | .lit _ _ _ _ => by simp [Ast.xt, neX, neXs, neXs_append]
  | .paren _ x _ => by simp [Ast.xt, neX, neXs, neXs_append, Ast.xt_ne x]
  | .unary _ _ x => by simp [Ast.xt, neX, neXs, neXs_append, Ast.xt_ne x]
  | .binary x _ _ y => by simp [Ast.xt, neX, neXs, neXs_append, Ast.xt_ne x, Ast.xt_ne y]
  | .sel x y => by simp [Ast.xt, neX, neXs, neXs_append, Ast.xt_ne x, Ast.xt_ne y]
  | .index x _ y _ => by simp [Ast.xt, neX, neXs, neXs_append, Ast.xt_ne x, Ast.xt_ne y]
  | .call x _ a _ _ => by simp [Ast.xt, neX, neXs, neXs_append, Ast.xt_ne x, xtL_ne a]
  | .asrt x _ y _ => by simp [Ast.xt, neX, neXs, neXs_append, Ast.xt_ne x, xtO_ne y]
  | .exprS x => by simp [Ast.xt, neX, neXs, neXs_append, Ast.xt_ne x]
  | .send x _ y => by simp [Ast.xt, neX, neXs, neXs_append, Ast.xt_ne x, Ast.xt_ne y]
  | .step x _ _ => by simp [Ast.xt, neX, neXs, neXs_append, Ast.xt_ne x]
  | .assign a _ _ b => by simp [Ast.xt, neX, neXs, neXs_append, xtL_ne a, xtL_ne b]
  | .goS _ x => by simp [Ast.xt, neX, neXs, neXs_append, Ast.xt_ne x]
  | .deferS _ x => by simp [Ast.xt, neX, neXs, neXs_append, Ast.xt_ne x]
  | .ret _ a => by simp [Ast.xt, neX, neXs, neXs_append, xtL_ne a]
  | .branch _ _ x => by simp [Ast.xt, neX, neXs, neXs_append, xtO_ne x]
  | .label x _ y => by simp [Ast.xt, neX, neXs, neXs_append, Ast.xt_ne x, Ast.xt_ne y]
  | .block _ a _ => by simp [Ast.xt, neX, neXs, neXs_append, xtL_ne a]
  | .ifS _ x y z u => by simp [Ast.xt, neX, neXs, neXs_append, xtO_ne x, Ast.xt_ne y, Ast.xt_ne z, xtO_ne u]
  | .caseC _ a _ b => by simp [Ast.xt, neX, neXs, neXs_append, xtL_ne a, xtL_ne b]
  | .switchS _ x y z => by simp [Ast.xt, neX, neXs, neXs_append, xtO_ne x, xtO_ne y, Ast.xt_ne z]
  | .typesS _ x y z => by simp [Ast.xt, neX, neXs, neXs_append, xtO_ne x, Ast.xt_ne y, Ast.xt_ne z]
  | .commC _ x _ b => by simp [Ast.xt, neX, neXs, neXs_append, xtO_ne x, xtL_ne b]
  | .selectS _ z => by simp [Ast.xt, neX, neXs, neXs_append, Ast.xt_ne z]
  | .forS _ x y z u => by simp [Ast.xt, neX, neXs, neXs_append, xtO_ne x, xtO_ne y, xtO_ne z, Ast.xt_ne u]
  | .rangeS _ x y _ _ _ z u => by simp [Ast.xt, neX, neXs, neXs_append, xtO_ne x, xtO_ne y, Ast.xt_ne z, Ast.xt_ne u]
theorem xtO_ne : ∀ a : Option Ast, neXs (xtO a) = true
  | none => by simp [xtO, neXs]
  | some a => by simp [xtO, neXs, Ast.xt_ne a]
theorem xtL_ne : ∀ l : List Ast, neXs (xtL l) = true
  | [] => by simp [xtL, neXs]
  | a :: l => by simp [xtL, neXs, Ast.xt_ne a, xtL_ne l]
end
theorem ne_of {k : ByteArray} (h : (!k.toList.isEmpty) = true) : ¬ k = ⟨#[]⟩ := by
  intro e
  subst e
  simp at h

/-- Beginnings less ends. -/
def bal : List ByteArray → Int
  | [] => 0
  | k :: r => (if k = ⟨#[]⟩ then -1 else 1) + bal r
theorem bal_append : ∀ a b : List ByteArray, bal (a ++ b) = bal a + bal b
  | [], b => by simp [bal]
  | x :: r, b => by simp only [List.cons_append, bal, bal_append r b]; omega
theorem bal_abs : ∀ a : List ByteArray, bal a ≤ a.length ∧ -(a.length : Int) ≤ bal a
  | [] => by simp [bal]
  | x :: r => by
    have := bal_abs r
    simp only [bal, List.length_cons]
    split <;> omega
theorem bal_snoc (L : List ByteArray) (i : Nat) (x : ByteArray) (h : L[i]? = some x) : bal (L.take (i + 1)) = bal (L.take i) + (if x = ⟨#[]⟩ then -1 else 1) := by
  obtain ⟨hi, he⟩ := List.getElem?_eq_some_iff.1 h
  rw [List.take_succ_eq_append_getElem hi, bal_append, he]
  simp [bal]
mutual
theorem evX_bal : ∀ x : XT, neX x = true → bal (evX ⟨#[]⟩ x) = 0 ∧ (∀ i, 0 < i → i < (evX ⟨#[]⟩ x).length → 0 < bal ((evX ⟨#[]⟩ x).take i)) ∧ (evX ⟨#[]⟩ x).length = 2 * x.size
  | .mk k ks, h => by
    rw [neX, Bool.and_eq_true] at h
    have hk := ne_of h.1
    obtain ⟨h1, h2, h3⟩ := evXs_bal ks h.2
    rw [evX, if_neg hk]
    refine ⟨?_, ?_, ?_⟩
    · simp only [bal, bal_append, h1, if_neg hk, if_true]; omega
    · intro i hi hl
      obtain ⟨j, rfl⟩ : ∃ j, i = j + 1 := ⟨i - 1, by omega⟩
      simp only [List.length_cons, List.length_append, List.length_nil] at hl
      rw [List.take_succ_cons, List.take_append_of_le_length (by omega)]
      have := h2 j
      simp only [bal, if_neg hk]
      omega
    · simp only [List.length_cons, List.length_append, List.length_nil, h3, XT.size]; omega
theorem evXs_bal : ∀ xs : List XT, neXs xs = true → bal (evXs ⟨#[]⟩ xs) = 0 ∧ (∀ i, 0 ≤ bal ((evXs ⟨#[]⟩ xs).take i)) ∧ (evXs ⟨#[]⟩ xs).length = 2 * sizeXs xs
  | [], _ => by simp [evXs, bal, sizeXs]
  | x :: r, h => by
    rw [neXs, Bool.and_eq_true] at h
    obtain ⟨h1, h2, h3⟩ := evX_bal x h.1
    obtain ⟨g1, g2, g3⟩ := evXs_bal r h.2
    rw [evXs]
    refine ⟨by rw [bal_append]; omega, fun i => ?_, by rw [List.length_append, sizeXs]; omega⟩
    rw [List.take_append, bal_append]
    have hg := g2 (i - (evX ⟨#[]⟩ x).length)
    rcases Nat.lt_or_ge i (evX ⟨#[]⟩ x).length with hl | hl
    · rcases Nat.eq_zero_or_pos i with h0 | h0
      · subst h0; simp [bal]
      · have := h2 i h0 hl; omega
    · rw [List.take_of_length_le hl]; omega
end

/-- One row is a beginning of those behind it, one longer each time at most; the last of each is its kind. -/
def deepL : List ByteArray → List (List ByteArray) → Prop
  | _, [] => True
  | p, r :: rs => 2 ≤ r.length ∧ r.dropLast <+: p ∧ deepL r rs
def lastD (p : List ByteArray) : List (List ByteArray) → List ByteArray
  | [] => p
  | r :: rs => lastD r rs
theorem deepL_append : ∀ (p : List ByteArray) (a b : List (List ByteArray)), deepL p (a ++ b) ↔ (deepL p a ∧ deepL (lastD p a) b)
  | p, [], b => by simp [deepL, lastD]
  | p, r :: rs, b => by simp [deepL, lastD, deepL_append r rs b, and_assoc]
mutual
theorem stX_deep : ∀ (x : XT), neX x = true → ∀ (p up : List ByteArray), up ≠ [] → up <+: p → deepL p (stX ⟨#[]⟩ x up) ∧ up <+: lastD p (stX ⟨#[]⟩ x up)
  | .mk k ks, h, p, up, hu, hp => by
    rw [neX, Bool.and_eq_true] at h
    have hk := ne_of h.1
    obtain ⟨h1, h2⟩ := stXs_deep ks h.2 (up ++ [k]) (up ++ [k]) (by simp) (List.prefix_refl _)
    rw [stX, if_neg hk]
    have hl : 0 < up.length := List.length_pos_iff.2 hu
    refine ⟨?_, ?_⟩
    · rw [deepL]
      refine ⟨by simp; omega, ?_, h1⟩
      rw [List.dropLast_concat]
      exact hp
    · rw [lastD]
      exact (List.prefix_append up [k]).trans h2
theorem stXs_deep : ∀ (xs : List XT), neXs xs = true → ∀ (p up : List ByteArray), up ≠ [] → up <+: p → deepL p (stXs ⟨#[]⟩ xs up) ∧ up <+: lastD p (stXs ⟨#[]⟩ xs up)
  | [], _, p, up, _, hp => by simp [stXs, deepL, lastD, hp]
  | x :: r, h, p, up, hu, hp => by
    rw [neXs, Bool.and_eq_true] at h
    obtain ⟨h1, h2⟩ := stX_deep x h.1 p up hu hp
    obtain ⟨g1, g2⟩ := stXs_deep r h.2 _ up hu h2
    have e : ∀ (q : List ByteArray) (a b : List (List ByteArray)), lastD q (a ++ b) = lastD (lastD q a) b := by
      intro q a
      induction a generalizing q with
      | nil => intro b; rfl
      | cons y ys ih => intro b; simp only [List.cons_append, lastD]; exact ih y b
    rw [stXs, deepL_append, e]
    exact ⟨⟨h1, g1⟩, g2⟩
end
mutual
theorem stX_last : ∀ (x : XT), neX x = true → ∀ up : List ByteArray, (stX ⟨#[]⟩ x up).map (fun r => r.getLast?) = (preX x).map some
  | .mk k ks, h, up => by
    rw [neX, Bool.and_eq_true] at h
    rw [stX, if_neg (ne_of h.1), preX, List.map_cons, List.map_cons, stXs_last ks h.2]
    simp
theorem stXs_last : ∀ (xs : List XT), neXs xs = true → ∀ up : List ByteArray, (stXs ⟨#[]⟩ xs up).map (fun r => r.getLast?) = (preXs xs).map some
  | [], _, _ => by simp [stXs, preXs]
  | x :: r, h, up => by
    rw [neXs, Bool.and_eq_true] at h
    rw [stXs, preXs, List.map_append, List.map_append, stX_last x h.1, stXs_last r h.2]
end
/-- The closure over which Yields' Preorder goes: what has come out, and whether more may come. -/
@[reducible] def yldF (m : Nat) : ByteArray → List ByteArray × Bool → Bool × (List ByteArray × Bool) := fun k s => if s.2 = true then (decide (s.1.length + 1 < m), (s.1 ++ [k], decide (s.1.length + 1 < m))) else (false, s)
end Go.Proofs.YtkkgfgllfbahlaaGreatFmt
