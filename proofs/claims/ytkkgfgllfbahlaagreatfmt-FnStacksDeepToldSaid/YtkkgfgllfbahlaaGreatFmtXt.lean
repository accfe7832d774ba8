/- What the builder builds has the structure of the tree; no program in sight.
What the builder builds of a statement has the structure of the tree; no program in sight.
Nodes whose tokens are in range and whose parts are expressions or statements as they should be (printed by gen_gd.py).
Walking a tree with a visitor, as plain functions; no program in sight.
Lists have parts, in whatever statement; what lies below it. No program in sight. -/
import Derived.Test.YtkkgfgllfbahlaaGreatFmtAst
import Derived.Test.YtkkgfgllfbahlaaGreatFmtSh
import Derived.Test.YtkkgfgllfbahlaaGreatFmtTree
set_option linter.unusedVariables false
set_option linter.unusedSimpArgs false
namespace Go.Proofs.YtkkgfgllfbahlaaGreatFmt
open Go Go.RowKit
set_option linter.unusedSimpArgs false

theorem shE_kind {n : Nd} (h : shE n = true) : n.kind.toList ∈ exprKinds := by
  obtain ⟨k, t, ks⟩ := n
  rw [shE_eq] at h
  simp only [Nd.kind_mk]
  split at h
  · rename_i hk
    rcases hk with hk | hk <;> (rw [hk]; decide)
  · split at h
    · rename_i hk
      rw [hk]; decide
    · simp only [Bool.and_eq_true, decide_eq_true_eq] at h
      exact h.1.1
theorem xtF_one {n : Nd} (h1 : n.kind.toList ≠ [108, 105, 115, 116]) (h2 : n.kind.toList ≠ [110, 111, 110, 101]) : xtF n = [xtN n] := by
  obtain ⟨k, t, ks⟩ := n
  simp only [Nd.kind_mk] at h1 h2
  simp [xtF, h1, h2]
theorem xtF_shE {n : Nd} (h : shE n = true) : xtF n = [xtN n] := by
  have hk := shE_kind h
  refine xtF_one ?_ ?_ <;> (intro e; rw [e] at hk; revert hk; decide)
theorem xtF_miss {n : Nd} (h : miss n = true) : xtF n = [] := by
  obtain ⟨k, t, ks⟩ := n
  simp only [miss, Bool.and_eq_true, decide_eq_true_eq, Nd.kd_mk, Nd.tx_mk, Nd.kids_mk] at h
  have hk : k.toList = [110, 111, 110, 101] := of_decide_eq_true h.1.1
  simp [xtF, hk]
theorem xtF_list {n : Nd} (h : n.kind.toList = [108, 105, 115, 116]) : xtF n = xtK n.kids := by
  obtain ⟨k, t, ks⟩ := n
  simp only [Nd.kind_mk] at h
  simp [xtF, h]
theorem xtB_shE : ∀ {ks : List Nd}, (∀ k, k ∈ ks → shE k = true) → xtB ks = xtK ks
  | [], _ => by simp [xtB, xtK]
  | k :: ks, h => by
    rw [xtB, xtK, xtF_shE (h k (by simp)), xtB_shE fun x hx => h x (by simp [hx])]
    rfl

theorem bEs_xt : ∀ (ks : List Nd) (f : Bool) (l : List Int), (∀ k l, k ∈ ks → (bE k l).1.xt = xtN k) → xtL (bEs f ks l).1 = xtK ks
  | [], _, _, _ => by simp [bEs, xtL, xtK]
  | k :: ks, f, l, h => by
    rw [bEs, xtL, xtK, h k _ (by simp), bEs_xt ks false _ fun x l hx => h x l (by simp [hx])]
theorem xt_name (t : ByteArray) (ks : List Nd) (hk : xtB ks = []) : xtN (.mk ⟨#[110, 97, 109, 101]⟩ t ks) = .mk ⟨#[110, 97, 109, 101]⟩ [] := by
  rw [xtN, hk]; simp
theorem xtN_plain (k t : ByteArray) (ks : List Nd) (h1 : k.toList ≠ [108, 97, 98, 101, 108]) (h2 : k.toList ≠ [115, 101, 108, 101, 99, 116]) : xtN (.mk k t ks) = .mk k (xtB ks) := by
  rw [xtN]; simp [h1, h2]
theorem len2 {α : Type} {l : List α} (h : l.length = 2) : ∃ x y, l = [x, y] := by
  match l, h with
  | [x, y], _ => exact ⟨x, y, rfl⟩

theorem bE_xt : ∀ (m : Nat) (n : Nd) (l : List Int), n.nodes ≤ m → shE n = true → (bE n l).1.xt = xtN n := by
  intro m
  induction m with
  | zero => intro n l hm; have := n.nodes_pos; omega
  | succ m ih =>
    intro n l hm hs
    obtain ⟨k, t, ks⟩ := n
    have hsub : ∀ x l, x ∈ ks → shE x = true → (bE x l).1.xt = xtN x := fun x l hx hsx => ih x l (by have := nodesL_mem hx; simp only [Nd.nodes] at hm; omega) hsx
    rw [shE_eq] at hs
    split at hs
    · rename_i h
      obtain rfl : ks = [] := by simpa using hs
      rcases h with h | h <;> obtain rfl := ba_eq h <;> rw [xtN_plain _ _ _ (by simp) (by simp)] <;> simp [bE, mkLit, mkName, Ast.xt, xtB]
    · split at hs
      · rename_i h
        obtain rfl := ba_eq h
        match ks, hs, hsub with
        | [], hs, _ => simp [shE2] at hs
        | [_], hs, _ => simp [shE2] at hs
        | _ :: _ :: _ :: _, hs, _ => simp [shE2] at hs
        | [x, y], hs, hsub =>
          simp only [shE2, Bool.and_eq_true, Bool.or_eq_true] at hs
          rw [xtN_plain _ _ _ (by simp) (by simp)]
          cases hmy : miss y
          · rw [hmy] at hs
            have hy : shE y = true := by simpa using hs.2.2
            simp [bE, hmy, mkAsrt, Ast.xt, xtO, xtB, xtF_shE hs.2.1, xtF_shE hy, hsub x _ (by simp) hs.2.1, hsub y _ (by simp) hy]
          · simp [bE, hmy, mkAsrt, Ast.xt, xtO, xtB, xtF_shE hs.2.1, xtF_miss hmy, hsub x _ (by simp) hs.2.1]
      · simp only [Bool.and_eq_true, decide_eq_true_eq, List.all_eq_true] at hs
        obtain ⟨⟨hk, hall⟩, har⟩ := hs
        rename_i hn1 hn2
        simp only [exprKinds, List.mem_cons, List.not_mem_nil, or_false] at hk
        rcases hk with h | h | h | h | h | h | h | h | h
        · exact absurd (Or.inl h) hn1
        · exact absurd (Or.inr h) hn1
        · obtain rfl := ba_eq h
          simp [arityOk] at har
          obtain ⟨x, rfl⟩ := List.length_eq_one_iff.1 har.2
          have hx := hall x (by simp)
          rw [xtN_plain _ _ _ (by simp) (by simp)]
          simp [bE, mkParen, Ast.xt, xtB, xtF_shE hx, hsub x _ (by simp) hx]
        · obtain rfl := ba_eq h
          simp [arityOk] at har
          obtain ⟨x, rfl⟩ := List.length_eq_one_iff.1 har.2
          have hx := hall x (by simp)
          rw [xtN_plain _ _ _ (by simp) (by simp)]
          simp [bE, mkUnary, Ast.xt, xtB, xtF_shE hx, hsub x _ (by simp) hx]
        · obtain rfl := ba_eq h
          simp [arityOk] at har
          obtain ⟨x, y, rfl⟩ := len2 har.2
          have hx := hall x (by simp)
          have hy := hall y (by simp)
          rw [xtN_plain _ _ _ (by simp) (by simp)]
          simp [bE, mkBinary, Ast.xt, xtB, xtF_shE hx, xtF_shE hy, hsub x _ (by simp) hx, hsub y _ (by simp) hy]
        · obtain rfl := ba_eq h
          simp [arityOk] at har
          obtain ⟨x, rfl⟩ := List.length_eq_one_iff.1 har
          have hx := hall x (by simp)
          rw [xtN]
          simp [bE, mkSel, Ast.xt, xtB, xtF_shE hx, hsub x _ (by simp) hx]
        · obtain rfl := ba_eq h
          simp [arityOk] at har
          obtain ⟨x, y, rfl⟩ := len2 har.2
          have hx := hall x (by simp)
          have hy := hall y (by simp)
          rw [xtN_plain _ _ _ (by simp) (by simp)]
          simp [bE, mkIndex, Ast.xt, xtB, xtF_shE hx, xtF_shE hy, hsub x _ (by simp) hx, hsub y _ (by simp) hy]
        · obtain rfl := ba_eq h
          simp [arityOk] at har
          match ks, har, hall, hsub with
          | x :: r, har, hall, hsub =>
            have hx := hall x (by simp)
            have hr : ∀ k, k ∈ r → shE k = true := fun k hk => hall k (by simp [hk])
            have hbe : bE (.mk ⟨#[99, 97, 108, 108]⟩ t (x :: r)) l = mkCall (bE x l) (bEs true r (bE x l).2.tail) := by
              match r with
              | [] => simp [bE]
              | [y] => simp [bE]
              | y :: z :: r => simp [bE]
            rw [xtN_plain _ _ _ (by simp) (by simp), hbe]
            simp [mkCall, Ast.xt, xtB, xtF_shE hx, xtB_shE hr, hsub x _ (by simp) hx, bEs_xt r true _ fun k l hk => hsub k l (by simp [hk]) (hr k hk)]
          | [], har, _, _ => simp at har
        · exact absurd h hn2
theorem bE_xt' {n : Nd} (h : shE n = true) (l : List Int) : (bE n l).1.xt = xtN n := bE_xt n.nodes n l (Nat.le_refl _) h
#print axioms bE_xt
end Go.Proofs.YtkkgfgllfbahlaaGreatFmt

namespace Go.Proofs.YtkkgfgllfbahlaaGreatFmt
open Go Go.RowKit
set_option linter.unusedSimpArgs false

theorem xtF_kinds {n : Nd} (h : n.kind.toList ∈ stmtKinds) : xtF n = [xtN n] := by
  refine xtF_one ?_ ?_ <;> (intro e; rw [e] at h; revert h; decide)
theorem xtF_shS {n : Nd} (h : shS n = true) : xtF n = [xtN n] := xtF_kinds (shS_kind h)
theorem xtF_simple {n : Nd} (h : shSimple n = true) : xtF n = [xtN n] := xtF_kinds (shSimple_kind h)
theorem xtF_blockk {n : Nd} (h : n.kind = ⟨#[98, 108, 111, 99, 107]⟩) : xtF n = [xtN n] := xtF_kinds (by rw [h]; simp [stmtKinds])
theorem xtB_one : ∀ {ks : List Nd}, (∀ k, k ∈ ks → xtF k = [xtN k]) → xtB ks = xtK ks
  | [], _ => by simp [xtB, xtK]
  | k :: ks, h => by
    rw [xtB, xtK, h k (by simp), xtB_one fun x hx => h x (by simp [hx])]
    rfl
theorem shE_list_xt {n : Nd} (h : ∀ k, k ∈ n.kids → shE k = true) (f : Bool) (l : List Int) : xtL (bEs f n.kids l).1 = xtK n.kids :=
  bEs_xt n.kids f l fun k l hk => bE_xt' (h k hk) l

theorem simple_xt {n : Nd} (l : List Int) (h : shSimple n = true) : (bS n l).1.xt = xtN n := by
  obtain ⟨k, t, ks⟩ := n
  have hk := shSimple_kind h
  simp only [Nd.kind_mk] at hk
  by_cases h1 : k.toList = [101, 120, 112, 114, 101, 115, 115, 105, 111, 110]
  · obtain rfl := ba_of h1
    obtain ⟨a, rfl, ha⟩ := inv_expression h
    rw [xtN_plain _ _ _ (by simp) (by simp)]
    simp [bS, mkExprS, Ast.xt, xtB, xtF_shE ha, bE_xt' ha]
  by_cases h2 : k.toList = [115, 116, 101, 112]
  · obtain rfl := ba_of h2
    obtain ⟨a, rfl, ha⟩ := inv_step h
    rw [xtN_plain _ _ _ (by simp) (by simp)]
    simp [bS, mkStep, Ast.xt, xtB, xtF_shE ha, bE_xt' ha]
  by_cases h3 : k.toList = [115, 101, 110, 100]
  · obtain rfl := ba_of h3
    obtain ⟨a, b, rfl, ha, hb⟩ := inv_send h
    rw [xtN_plain _ _ _ (by simp) (by simp)]
    simp [bS, mkSend, Ast.xt, xtB, xtF_shE ha, bE_xt' ha, xtF_shE hb, bE_xt' hb]
  by_cases h4 : k.toList = [97, 115, 115, 105, 103, 110]
  · obtain rfl := ba_of h4
    obtain ⟨a, b, rfl, ha, hb⟩ := inv_assign h
    have ha := inv_list ha
    have hb := inv_list hb
    rw [xtN_plain _ _ _ (by simp) (by simp)]
    simp [bS, mkAssign, Ast.xt, xtB, xtF_list ha.1, xtF_list hb.1, shE_list_xt ha.2, shE_list_xt hb.2]
  simp [shSimple, h1, h2, h3, h4] at h

theorem bSs_xt : ∀ (ks : List Nd) (l : List Int), (∀ k l, k ∈ ks → (bS k l).1.xt = xtN k) → xtL (bSs ks l).1 = xtK ks
  | [], _, _ => by simp [bSs, xtL, xtK]
  | k :: ks, l, h => by
    rw [bSs, xtL, xtK, h k _ (by simp), bSs_xt ks _ fun x l hx => h x l (by simp [hx])]
theorem bB_xt {n : Nd} (l : List Int) (h : shBlock n = true) (hs : ∀ k l, k ∈ n.kids → shS k = true → (bS k l).1.xt = xtN k) : (bB n l).1.xt = xtN n := by
  obtain ⟨hk, hb⟩ := inv_shBlock h
  obtain ⟨k, t, ks⟩ := n
  simp only [Nd.kind_mk, Nd.kids_mk] at hk hb hs
  subst hk
  rw [xtN_plain _ _ _ (by simp) (by simp), bB, mkBlock, Ast.xt, bSs_xt ks _ fun k l hk => hs k l hk (hb k hk), xtB_one fun k hk => xtF_shS (hb k hk)]
theorem optB_xt {n : Nd} (l : List Int) (r : BR) (h : miss n = false → r.1.xt = xtN n ∧ xtF n = [xtN n]) : xtO (optB n l r).1 = xtF n := by
  cases hm : miss n
  · rw [(h hm).2]
    simp [optB, hm, xtO, (h hm).1]
  · rw [xtF_miss hm]
    simp [optB, hm, xtO]
theorem optS_xt {n : Nd} (l l1 : List Int) (h : miss n = true ∨ shSimple n = true) : xtO (optB n l1 (bS n l)).1 = xtF n :=
  optB_xt l1 _ fun hm => by
    have h : shSimple n = true := by rcases h with h | h; · rw [hm] at h; simp at h
                                     · exact h
    exact ⟨simple_xt l h, xtF_simple h⟩
theorem optE_xt {n : Nd} (l l1 : List Int) (h : miss n = true ∨ shE n = true) : xtO (optB n l1 (bE n l)).1 = xtF n :=
  optB_xt l1 _ fun hm => by
    have h : shE n = true := by rcases h with h | h; · rw [hm] at h; simp at h
                                · exact h
    exact ⟨bE_xt' h l, xtF_shE h⟩
theorem bCl_xt (c : Bool) (t : ByteArray) (h : Nd) (b : List Nd) (l : List Int) (hh : miss h = true ∨ (if c = true then shSimple h else shList h) = true) (hb : ∀ k, k ∈ b → shS k = true) (hs : ∀ k l, k ∈ b → shS k = true → (bS k l).1.xt = xtN k) :
    (bCl c (.mk ⟨#[99, 108, 97, 117, 115, 101]⟩ t (h :: b)) l).1.xt = xtN (.mk ⟨#[99, 108, 97, 117, 115, 101]⟩ t (h :: b)) := by
  rw [xtN_plain _ _ _ (by simp) (by simp), xtB, xtB_one fun k hk => xtF_shS (hb k hk)]
  cases c
  · simp only [bCl, Bool.false_eq_true, if_false] at hh ⊢
    rw [mkCase, Ast.xt, bSs_xt b _ fun k l hk => hs k l hk (hb k hk)]
    congr 2
    rcases hh with hh | hh
    · rw [xtF_miss hh]
      obtain ⟨k1, t1, ks1⟩ := h
      simp [miss] at hh
      simp [hh.2, bEs, xtL]
    · rw [xtF_list (inv_list hh).1]
      exact shE_list_xt (inv_list hh).2 _ _
  · simp only [bCl, if_true] at hh ⊢
    rw [mkComm, Ast.xt, bSs_xt b _ fun k l hk => hs k l hk (hb k hk), optS_xt _ _ hh]
theorem bCs_xt (c : Bool) : ∀ (ks : List Nd) (l : List Int), (∀ k l, k ∈ ks → (bCl c k l).1.xt = xtN k) → xtL (bCs c ks l).1 = xtK ks
  | [], _, _ => by simp [bCs, xtL, xtK]
  | k :: ks, l, h => by
    rw [bCs, xtL, xtK, h k _ (by simp), bCs_xt c ks _ fun x l hx => h x l (by simp [hx])]
theorem bC_xt (c : Bool) {n : Nd} (l : List Int) (h : shCls (if c = true then shSimple else shList) n = true) (hs : ∀ k l, k.nodes ≤ n.nodes → shS k = true → (bS k l).1.xt = xtN k) : (bC c n l).1.xt = xtN n := by
  obtain ⟨hk, hb⟩ := inv_shCls h
  obtain ⟨k, t, ks⟩ := n
  simp only [Nd.kind_mk, Nd.kids_mk] at hk hb
  subst hk
  rw [xtN_plain _ _ _ (by simp) (by simp), bC, mkBlock, Ast.xt, bCs_xt c ks, xtB_one]
  · intro x hx
    obtain ⟨t1, h1, b1, rfl, -⟩ := hb x hx
    exact xtF_one (by simp) (by simp)
  · intro x l hx
    obtain ⟨t1, h1, b1, rfl, hh, hb1⟩ := hb x hx
    refine bCl_xt c t1 h1 b1 l ?_ hb1 fun k l hk hk2 => hs k l ?_ hk2
    · cases c <;> simpa using hh
    · have h1 := nodesL_mem hx
      have h2 := nodesL_mem hk
      simp only [Nd.nodes, nodesL] at h1 ⊢
      omega

theorem bS_block (t : ByteArray) (ks : List Nd) (l : List Int) : bS (.mk ⟨#[98, 108, 111, 99, 107]⟩ t ks) l = mkBlock l (bSs ks l.tail) := by
  match ks with | [] => simp [bS] | [a] => simp [bS] | [a, b] => simp [bS] | [a, b, c] => simp [bS] | [a, b, c, d] => simp [bS] | a :: b :: c :: d :: e :: r => simp [bS]
theorem bS_ret (t : ByteArray) (ks : List Nd) (l : List Int) : bS (.mk ⟨#[114, 101, 116, 117, 114, 110]⟩ t ks) l = mkRet l (bEs true ks l.tail) := by
  match ks with | [] => simp [bS] | [a] => simp [bS] | [a, b] => simp [bS] | [a, b, c] => simp [bS] | [a, b, c, d] => simp [bS] | a :: b :: c :: d :: e :: r => simp [bS]

theorem bS_xt : ∀ (m : Nat) (n : Nd) (l : List Int), n.nodes ≤ m → shS n = true → (bS n l).1.xt = xtN n := by
  intro m
  induction m with
  | zero => intro n l hm; have := n.nodes_pos; omega
  | succ m ih =>
    intro n l hm hs
    obtain ⟨k, t, ks⟩ := n
    have hks : ∀ x, x ∈ ks → x.nodes ≤ m := fun x hx => by have := nodesL_mem hx; simp only [Nd.nodes] at hm; omega
    have hB : ∀ x l, x ∈ ks → shBlock x = true → (bB x l).1.xt = xtN x := fun x l hx hb => bB_xt l hb fun y l hy hsy => ih y l (by
      have h1 := hks x hx
      have h2 := nodesL_mem hy
      rw [Nd.nodes_kids] at h1
      omega) hsy
    have hC : ∀ c x l, x ∈ ks → shCls (if c = true then shSimple else shList) x = true → (bC c x l).1.xt = xtN x := fun c x l hx hb => bC_xt c l hb fun y l hy hsy => ih y l (Nat.le_trans hy (hks x hx)) hsy
    have hk := shS_kind hs
    simp only [Nd.kind_mk, stmtKinds, List.mem_cons, List.not_mem_nil, or_false] at hk
    rcases hk with h | h | h | h | h | h | h | h | h | h | h | h | h | h | h | h
    · exact simple_xt l (shS_simple (by simp [h]) hs)
    · exact simple_xt l (shS_simple (by simp [h]) hs)
    · exact simple_xt l (shS_simple (by simp [h]) hs)
    · exact simple_xt l (shS_simple (by simp [h]) hs)
    · obtain ⟨a, rfl, ha, -⟩ := inv_go (Or.inl h) hs
      obtain rfl := ba_of h
      rw [xtN_plain _ _ _ (by simp) (by simp)]
      simp [bS, mkGo, Ast.xt, xtB, xtF_shE ha, bE_xt' ha]
    · obtain ⟨a, rfl, ha, -⟩ := inv_go (Or.inr h) hs
      obtain rfl := ba_of h
      rw [xtN_plain _ _ _ (by simp) (by simp)]
      simp [bS, mkDefer, Ast.xt, xtB, xtF_shE ha, bE_xt' ha]
    · obtain rfl := ba_of h
      have ha := inv_return hs
      rw [xtN_plain _ _ _ (by simp) (by simp), bS_ret, mkRet, Ast.xt, xtB_shE ha, bEs_xt ks true _ fun k l hk => bE_xt' (ha k hk) l]
    · obtain rfl := ba_of h
      rcases inv_branch hs with rfl | ⟨a, rfl, ha, hn⟩
      · rw [xtN_plain _ _ _ (by simp) (by simp)]
        simp [bS, mkBranch, Ast.xt, xtO, xtB]
      · rw [xtN_plain _ _ _ (by simp) (by simp)]
        obtain ⟨ka, ta, ksa⟩ := a
        obtain rfl := ba_of hn
        rw [shE_eq] at ha
        obtain rfl : ksa = [] := by simpa using ha
        simp [bS, mkBranch, Ast.xt, xtO, xtB, xtF, xtN]
    · obtain rfl := ba_of h
      obtain ⟨a, rfl, ha⟩ := inv_label hs
      rw [xtN]
      simp [bS, mkLabel, Ast.xt, xtB, xtF_shS ha, ih a _ (hks a (by simp)) ha]
    · obtain rfl := ba_of h
      have ha := inv_block hs
      rw [xtN_plain _ _ _ (by simp) (by simp), bS_block, mkBlock, Ast.xt, xtB_one fun k hk => xtF_shS (ha k hk), bSs_xt ks _ fun k l hk => ih k l (hks k hk) (ha k hk)]
    · obtain rfl := ba_of h
      obtain ⟨a, b, c, d, rfl, ha, hb, hc, hd⟩ := inv_if hs
      rw [xtN_plain _ _ _ (by simp) (by simp)]
      have hdd : ∀ l l1, xtO (optB d l1 (bS d l)).1 = xtF d := fun l l1 => optB_xt l1 _ fun hm => by
        have h : shS d = true := by rcases hd with h | h; · rw [hm] at h; simp at h
                                    · exact h
        exact ⟨ih d l (hks d (by simp)) h, xtF_shS h⟩
      simp [bS, mkIf, Ast.xt, xtB, xtF_shE hb, bE_xt' hb, xtF_blockk (inv_shBlock hc).1, hB c _ (by simp) hc, optS_xt _ _ ha, hdd]
    · obtain rfl := ba_of h
      obtain ⟨a, b, c, d, rfl, ha, hb, hc, hd⟩ := inv_for hs
      rw [xtN_plain _ _ _ (by simp) (by simp)]
      simp [bS, mkFor, bEO, Ast.xt, xtB, optE_xt _ _ hb, xtF_blockk (inv_shBlock hd).1, hB d _ (by simp) hd, optS_xt _ _ ha, optS_xt _ _ hc]
    · obtain rfl := ba_of h
      obtain ⟨a, b, c, d, rfl, hc, hd, ⟨ht, ha, hb⟩ | ⟨ht, ha, hb⟩⟩ := inv_range hs
      · rw [xtN_plain _ _ _ (by simp) (by simp)]
        simp [bS, ht, mkRange0, Ast.xt, xtO, xtB, xtF_shE hc, bE_xt' hc, xtF_blockk (inv_shBlock hd).1, hB d _ (by simp) hd, xtF_miss ha, xtF_miss hb]
      · rw [xtN_plain _ _ _ (by simp) (by simp)]
        simp [bS, ht, mkRange, bEC, Ast.xt, xtO, xtB, xtF_shE hc, bE_xt' hc, xtF_blockk (inv_shBlock hd).1, hB d _ (by simp) hd, xtF_shE ha, bE_xt' ha, optE_xt _ _ hb]
    · obtain rfl := ba_of h
      obtain ⟨a, b, c, rfl, ha, hb, hc⟩ := inv_switch hs
      rw [xtN_plain _ _ _ (by simp) (by simp)]
      simp [bS, mkSwitch, bEO, Ast.xt, xtB, optE_xt _ _ hb, xtF_blockk (inv_shCls hc).1, hC false c _ (by simp) (by simpa using hc), optS_xt _ _ ha]
    · obtain rfl := ba_of h
      obtain ⟨a, b, c, rfl, ha, hb, hc⟩ := inv_types hs
      rw [xtN_plain _ _ _ (by simp) (by simp)]
      simp [bS, mkTypes, Ast.xt, xtB, xtF_simple hb, simple_xt _ hb, xtF_blockk (inv_shCls hc).1, hC false c _ (by simp) (by simpa using hc), optS_xt _ _ ha]
    · obtain rfl := ba_of h
      obtain ⟨a, rfl, ha⟩ := inv_selects hs
      rw [xtN_plain _ _ _ (by simp) (by simp)]
      simp [bS, mkSelect, Ast.xt, xtB, xtF_blockk (inv_shCls ha).1, hC true a _ (by simp) (by simpa using ha)]
#print axioms bS_xt
end Go.Proofs.YtkkgfgllfbahlaaGreatFmt

namespace Go.Proofs.YtkkgfgllfbahlaaGreatFmt
open Go Go.RowKit
set_option linter.unusedSimpArgs false

def tokR (t : Int) : Bool := decide (0 ≤ t) && decide (t < 89)
mutual
def Ast.good : Ast → Bool
  | .ident _ _ => true
  | .lit _ _ _ _ => true
  | .paren _ x _ => (x.isStmt == false) && x.good
  | .unary _ t x => tokR t && (x.isStmt == false) && x.good
  | .binary x _ t y => (x.isStmt == false) && x.good && tokR t && (y.isStmt == false) && y.good
  | .sel x y => (x.isStmt == false) && x.good && (y.isStmt == false) && y.good
  | .index x _ y _ => (x.isStmt == false) && x.good && (y.isStmt == false) && y.good
  | .call x _ a _ _ => (x.isStmt == false) && x.good && (decide (a.length ≤ 400) && goodL false a)
  | .asrt x _ y _ => (x.isStmt == false) && x.good && goodO false y
  | .exprS x => (x.isStmt == false) && x.good
  | .send x _ y => (x.isStmt == false) && x.good && (y.isStmt == false) && y.good
  | .step x _ t => (x.isStmt == false) && x.good && tokR t
  | .assign a _ t b => (decide (a.length ≤ 400) && goodL false a) && tokR t && (decide (b.length ≤ 400) && goodL false b)
  | .goS _ x => (x.isStmt == false) && x.good
  | .deferS _ x => (x.isStmt == false) && x.good
  | .ret _ a => (decide (a.length ≤ 400) && goodL false a)
  | .branch _ t x => tokR t && goodO false x
  | .label x _ y => (x.isStmt == false) && x.good && (y.isStmt == true) && y.good
  | .block _ a _ => (decide (a.length ≤ 400) && goodL true a)
  | .ifS _ x y z u => goodO true x && (y.isStmt == false) && y.good && (z.isStmt == true) && z.good && goodO true u
  | .caseC _ a _ b => (decide (a.length ≤ 400) && goodL false a) && (decide (b.length ≤ 400) && goodL true b)
  | .switchS _ x y z => goodO true x && goodO false y && (z.isStmt == true) && z.good
  | .typesS _ x y z => goodO true x && (y.isStmt == true) && y.good && (z.isStmt == true) && z.good
  | .commC _ x _ b => goodO true x && (decide (b.length ≤ 400) && goodL true b)
  | .selectS _ z => (z.isStmt == true) && z.good
  | .forS _ x y z u => goodO true x && goodO false y && goodO true z && (u.isStmt == true) && u.good
  | .rangeS _ x y _ t _ z u => goodO false x && goodO false y && tokR t && (z.isStmt == false) && z.good && (u.isStmt == true) && u.good
def goodO (st : Bool) : Option Ast → Bool
  | none => true
  | some a => (a.isStmt == st) && a.good
def goodL (st : Bool) : List Ast → Bool
  | [] => true
  | a :: l => (a.isStmt == st) && a.good && goodL st l
end

@[simp] theorem Ast.isStmt_ident (p : Int) (s : ByteArray) : (Ast.ident p s).isStmt = false := rfl
@[simp] theorem Ast.isStmt_lit (p : Int) (e : Int) (k : Int) (s : ByteArray) : (Ast.lit p e k s).isStmt = false := rfl
@[simp] theorem Ast.isStmt_paren (l : Int) (x : Ast) (r : Int) : (Ast.paren l x r).isStmt = false := rfl
@[simp] theorem Ast.isStmt_unary (p : Int) (t : Int) (x : Ast) : (Ast.unary p t x).isStmt = false := rfl
@[simp] theorem Ast.isStmt_binary (x : Ast) (p : Int) (t : Int) (y : Ast) : (Ast.binary x p t y).isStmt = false := rfl
@[simp] theorem Ast.isStmt_sel (x : Ast) (y : Ast) : (Ast.sel x y).isStmt = false := rfl
@[simp] theorem Ast.isStmt_index (x : Ast) (l : Int) (y : Ast) (r : Int) : (Ast.index x l y r).isStmt = false := rfl
@[simp] theorem Ast.isStmt_call (x : Ast) (l : Int) (a : List Ast) (e : Int) (r : Int) : (Ast.call x l a e r).isStmt = false := rfl
@[simp] theorem Ast.isStmt_asrt (x : Ast) (l : Int) (y : Option Ast) (r : Int) : (Ast.asrt x l y r).isStmt = false := rfl
@[simp] theorem Ast.isStmt_exprS (x : Ast) : (Ast.exprS x).isStmt = true := rfl
@[simp] theorem Ast.isStmt_send (x : Ast) (p : Int) (y : Ast) : (Ast.send x p y).isStmt = true := rfl
@[simp] theorem Ast.isStmt_step (x : Ast) (p : Int) (t : Int) : (Ast.step x p t).isStmt = true := rfl
@[simp] theorem Ast.isStmt_assign (a : List Ast) (p : Int) (t : Int) (b : List Ast) : (Ast.assign a p t b).isStmt = true := rfl
@[simp] theorem Ast.isStmt_goS (p : Int) (x : Ast) : (Ast.goS p x).isStmt = true := rfl
@[simp] theorem Ast.isStmt_deferS (p : Int) (x : Ast) : (Ast.deferS p x).isStmt = true := rfl
@[simp] theorem Ast.isStmt_ret (p : Int) (a : List Ast) : (Ast.ret p a).isStmt = true := rfl
@[simp] theorem Ast.isStmt_branch (p : Int) (t : Int) (x : Option Ast) : (Ast.branch p t x).isStmt = true := rfl
@[simp] theorem Ast.isStmt_label (x : Ast) (c : Int) (y : Ast) : (Ast.label x c y).isStmt = true := rfl
@[simp] theorem Ast.isStmt_block (l : Int) (a : List Ast) (r : Int) : (Ast.block l a r).isStmt = true := rfl
@[simp] theorem Ast.isStmt_ifS (p : Int) (x : Option Ast) (y : Ast) (z : Ast) (u : Option Ast) : (Ast.ifS p x y z u).isStmt = true := rfl
@[simp] theorem Ast.isStmt_caseC (p : Int) (a : List Ast) (c : Int) (b : List Ast) : (Ast.caseC p a c b).isStmt = true := rfl
@[simp] theorem Ast.isStmt_switchS (p : Int) (x : Option Ast) (y : Option Ast) (z : Ast) : (Ast.switchS p x y z).isStmt = true := rfl
@[simp] theorem Ast.isStmt_typesS (p : Int) (x : Option Ast) (y : Ast) (z : Ast) : (Ast.typesS p x y z).isStmt = true := rfl
@[simp] theorem Ast.isStmt_commC (p : Int) (x : Option Ast) (c : Int) (b : List Ast) : (Ast.commC p x c b).isStmt = true := rfl
@[simp] theorem Ast.isStmt_selectS (p : Int) (z : Ast) : (Ast.selectS p z).isStmt = true := rfl
@[simp] theorem Ast.isStmt_forS (p : Int) (x : Option Ast) (y : Option Ast) (z : Option Ast) (u : Ast) : (Ast.forS p x y z u).isStmt = true := rfl
@[simp] theorem Ast.isStmt_rangeS (p : Int) (x : Option Ast) (y : Option Ast) (q : Int) (t : Int) (r : Int) (z : Ast) (u : Ast) : (Ast.rangeS p x y q t r z u).isStmt = true := rfl
theorem tokR_word (s : ByteArray) : tokR (wordOf s) = true := by
  obtain ⟨t, h, ht⟩ := wordOf_range s
  rw [h]
  simp [tokR]; omega
theorem goodL_mem {st : Bool} : ∀ {l : List Ast}, goodL st l = true → ∀ a, a ∈ l → a.isStmt = st ∧ a.good = true
  | [], _, a, h => by simp at h
  | b :: l, hg, a, h => by
    simp only [goodL, Bool.and_eq_true, beq_iff_eq] at hg
    rcases List.mem_cons.1 h with rfl | h
    · exact hg.1
    · exact goodL_mem hg.2 a h
theorem bEs_good : ∀ (ks : List Nd) (f : Bool) (l : List Int), (∀ k l, k ∈ ks → (bE k l).1.isStmt = false ∧ (bE k l).1.good = true) → goodL false (bEs f ks l).1 = true ∧ (bEs f ks l).1.length = ks.length
  | [], _, _, _ => by simp [bEs, goodL]
  | k :: ks, f, l, h => by
    have h1 := h k (if f then l else l.tail) (by simp)
    have h2 := bEs_good ks false (bE k (if f then l else l.tail)).2 fun x l hx => h x l (by simp [hx])
    rw [bEs]
    simp [goodL, h1, h2]
theorem nodes_len {k : ByteArray} {t : ByteArray} {ks : List Nd} (h : (Nd.mk k t ks).nodes ≤ 400) : ks.length ≤ 400 := by
  have := nodesL_length ks
  simp only [Nd.nodes] at h
  omega
theorem bE_good : ∀ (m : Nat) (n : Nd) (l : List Int), n.nodes ≤ m → n.nodes ≤ 400 → shE n = true → (bE n l).1.isStmt = false ∧ (bE n l).1.good = true := by
  intro m
  induction m with
  | zero => intro n l hm; have := n.nodes_pos; omega
  | succ m ih =>
    intro n l hm h400 hs
    obtain ⟨k, t, ks⟩ := n
    have hlen := nodes_len h400
    have hsub : ∀ x l, x ∈ ks → shE x = true → (bE x l).1.isStmt = false ∧ (bE x l).1.good = true := fun x l hx hsx => ih x l (by have := nodesL_mem hx; simp only [Nd.nodes] at hm; omega) (by have := nodesL_mem hx; simp only [Nd.nodes] at h400; omega) hsx
    rw [shE_eq] at hs
    split at hs
    · rename_i h
      obtain rfl : ks = [] := by simpa using hs
      rcases h with h | h <;> obtain rfl := ba_eq h <;> simp [bE, mkLit, mkName, Ast.good]
    · split at hs
      · rename_i h
        obtain rfl := ba_eq h
        match ks, hs, hsub with
        | [], hs, _ => simp [shE2] at hs
        | [_], hs, _ => simp [shE2] at hs
        | _ :: _ :: _ :: _, hs, _ => simp [shE2] at hs
        | [x, y], hs, hsub =>
          simp only [shE2, Bool.and_eq_true, Bool.or_eq_true] at hs
          cases hmy : miss y
          · rw [hmy] at hs
            have hy : shE y = true := by simpa using hs.2.2
            simp [bE, hmy, mkAsrt, Ast.good, goodO, hsub x _ (by simp) hs.2.1, hsub y _ (by simp) hy]
          · simp [bE, hmy, mkAsrt, Ast.good, goodO, hsub x _ (by simp) hs.2.1]
      · simp only [Bool.and_eq_true, decide_eq_true_eq, List.all_eq_true] at hs
        obtain ⟨⟨hk, hall⟩, har⟩ := hs
        rename_i hn1 hn2
        simp only [exprKinds, List.mem_cons, List.not_mem_nil, or_false] at hk
        rcases hk with h | h | h | h | h | h | h | h | h
        · exact absurd (Or.inl h) hn1
        · exact absurd (Or.inr h) hn1
        · obtain rfl := ba_eq h
          simp [arityOk] at har
          obtain ⟨x, rfl⟩ := List.length_eq_one_iff.1 har.2
          simp [bE, mkParen, Ast.good, hsub x _ (by simp) (hall x (by simp))]
        · obtain rfl := ba_eq h
          simp [arityOk] at har
          obtain ⟨x, rfl⟩ := List.length_eq_one_iff.1 har.2
          simp [bE, mkUnary, Ast.good, tokR_word, hsub x _ (by simp) (hall x (by simp))]
        · obtain rfl := ba_eq h
          simp [arityOk] at har
          obtain ⟨x, y, rfl⟩ := len2 har.2
          simp [bE, mkBinary, Ast.good, tokR_word, hsub x _ (by simp) (hall x (by simp)), hsub y _ (by simp) (hall y (by simp))]
        · obtain rfl := ba_eq h
          simp [arityOk] at har
          obtain ⟨x, rfl⟩ := List.length_eq_one_iff.1 har
          simp [bE, mkSel, Ast.good, hsub x _ (by simp) (hall x (by simp))]
        · obtain rfl := ba_eq h
          simp [arityOk] at har
          obtain ⟨x, y, rfl⟩ := len2 har.2
          simp [bE, mkIndex, Ast.good, hsub x _ (by simp) (hall x (by simp)), hsub y _ (by simp) (hall y (by simp))]
        · obtain rfl := ba_eq h
          simp [arityOk] at har
          match ks, har, hall, hsub, hlen with
          | x :: r, har, hall, hsub, hlen =>
            have hbe : bE (.mk ⟨#[99, 97, 108, 108]⟩ t (x :: r)) l = mkCall (bE x l) (bEs true r (bE x l).2.tail) := by
              match r with
              | [] => simp [bE]
              | [y] => simp [bE]
              | y :: z :: r => simp [bE]
            have hr := bEs_good r true (bE x l).2.tail fun k l hk => hsub k l (by simp [hk]) (hall k (by simp [hk]))
            simp only [List.length_cons] at hlen
            rw [hbe]
            simp [mkCall, Ast.good, hsub x _ (by simp) (hall x (by simp)), hr]
            omega
          | [], har, _, _, _ => simp at har
        · exact absurd h hn2
theorem bE_good' {n : Nd} (h : shE n = true) (hm : n.nodes ≤ 400) (l : List Int) : (bE n l).1.isStmt = false ∧ (bE n l).1.good = true := bE_good n.nodes n l (Nat.le_refl _) hm h
theorem bEs_good' {ks : List Nd} (h : ∀ k, k ∈ ks → shE k = true) (hm : nodesL ks ≤ 400) (f : Bool) (l : List Int) : goodL false (bEs f ks l).1 = true ∧ (bEs f ks l).1.length ≤ 400 := by
  have := bEs_good ks f l fun k l hk => bE_good' (h k hk) (by have := nodesL_mem hk; omega) l
  have h2 := nodesL_length ks
  exact ⟨this.1, by omega⟩

theorem simple_good {n : Nd} (l : List Int) (h : shSimple n = true) (hm : n.nodes ≤ 400) : (bS n l).1.isStmt = true ∧ (bS n l).1.good = true := by
  obtain ⟨k, t, ks⟩ := n
  have hks : ∀ x, x ∈ ks → x.nodes ≤ 400 := fun x hx => by have := nodesL_mem hx; simp only [Nd.nodes] at hm; omega
  by_cases h1 : k.toList = [101, 120, 112, 114, 101, 115, 115, 105, 111, 110]
  · obtain rfl := ba_of h1
    obtain ⟨a, rfl, ha⟩ := inv_expression h
    simp [bS, mkExprS, Ast.good, bE_good' ha (hks a (by simp))]
  by_cases h2 : k.toList = [115, 116, 101, 112]
  · obtain rfl := ba_of h2
    obtain ⟨a, rfl, ha⟩ := inv_step h
    simp [bS, mkStep, Ast.good, tokR_word, bE_good' ha (hks a (by simp))]
  by_cases h3 : k.toList = [115, 101, 110, 100]
  · obtain rfl := ba_of h3
    obtain ⟨a, b, rfl, ha, hb⟩ := inv_send h
    simp [bS, mkSend, Ast.good, bE_good' ha (hks a (by simp)), bE_good' hb (hks b (by simp))]
  by_cases h4 : k.toList = [97, 115, 115, 105, 103, 110]
  · obtain rfl := ba_of h4
    obtain ⟨a, b, rfl, ha, hb⟩ := inv_assign h
    have ha := inv_list ha
    have hb := inv_list hb
    have hka := hks a (by simp)
    have hkb := hks b (by simp)
    rw [Nd.nodes_kids] at hka hkb
    simp [bS, mkAssign, Ast.good, tokR_word, bEs_good' ha.2 (by omega), bEs_good' hb.2 (by omega)]
  simp [shSimple, h1, h2, h3, h4] at h
theorem bSs_good : ∀ (ks : List Nd) (l : List Int), (∀ k l, k ∈ ks → (bS k l).1.isStmt = true ∧ (bS k l).1.good = true) → goodL true (bSs ks l).1 = true ∧ (bSs ks l).1.length = ks.length
  | [], _, _ => by simp [bSs, goodL]
  | k :: ks, l, h => by
    have h1 := h k l (by simp)
    have h2 := bSs_good ks (bS k l).2 fun x l hx => h x l (by simp [hx])
    rw [bSs]
    simp [goodL, h1, h2]
theorem optS_good {n : Nd} (l l1 : List Int) (h : miss n = true ∨ shSimple n = true) (hm : n.nodes ≤ 400) : goodO true (optB n l1 (bS n l)).1 = true := by
  cases hmn : miss n
  · rw [hmn] at h
    have h : shSimple n = true := by simpa using h
    simp [optB, hmn, goodO, simple_good l h hm]
  · simp [optB, hmn, goodO]
theorem optE_good {n : Nd} (l l1 : List Int) (h : miss n = true ∨ shE n = true) (hm : n.nodes ≤ 400) : goodO false (optB n l1 (bE n l)).1 = true := by
  cases hmn : miss n
  · rw [hmn] at h
    have h : shE n = true := by simpa using h
    simp [optB, hmn, goodO, bE_good' h hm l]
  · simp [optB, hmn, goodO]
theorem bB_good {n : Nd} (l : List Int) (h : shBlock n = true) (hm : n.nodes ≤ 400) (hs : ∀ k l, k ∈ n.kids → shS k = true → (bS k l).1.isStmt = true ∧ (bS k l).1.good = true) : (bB n l).1.isStmt = true ∧ (bB n l).1.good = true := by
  obtain ⟨hk, hb⟩ := inv_shBlock h
  obtain ⟨k, t, ks⟩ := n
  have hlen := nodes_len hm
  simp only [Nd.kids_mk] at hb hs
  have := bSs_good ks l.tail fun k l hk => hs k l hk (hb k hk)
  rw [bB, mkBlock]
  simp [Ast.good, this]
  omega
theorem bCl_good (c : Bool) (t : ByteArray) (h : Nd) (b : List Nd) (l : List Int) (hm : h.nodes + nodesL b ≤ 400) (hh : miss h = true ∨ (if c = true then shSimple h else shList h) = true) (hb : ∀ k, k ∈ b → shS k = true) (hs : ∀ k l, k ∈ b → shS k = true → (bS k l).1.isStmt = true ∧ (bS k l).1.good = true) :
    (bCl c (.mk ⟨#[99, 108, 97, 117, 115, 101]⟩ t (h :: b)) l).1.isStmt = true ∧ (bCl c (.mk ⟨#[99, 108, 97, 117, 115, 101]⟩ t (h :: b)) l).1.good = true := by
  have hbl := nodesL_length b
  have hbs := fun l => bSs_good b l fun k l hk => hs k l hk (hb k hk)
  have hbn : b.length ≤ 400 := by omega
  cases c
  · simp only [bCl, Bool.false_eq_true, if_false] at hh ⊢
    rw [mkCase]
    have hl : goodL false (bEs true h.kids l.tail).1 = true ∧ (bEs true h.kids l.tail).1.length ≤ 400 := by
      rcases hh with hh | hh
      · obtain ⟨k1, t1, ks1⟩ := h
        simp [miss] at hh
        simp [hh.2, bEs, goodL]
      · exact bEs_good' (inv_list hh).2 (by have := Nd.nodes_kids h; omega) _ _
    simp [Ast.good, hl, hbs, hbn]
  · simp only [bCl, if_true] at hh ⊢
    rw [mkComm]
    simp [Ast.good, optS_good _ _ hh (by omega), hbs, hbn]
theorem bCs_good (c : Bool) : ∀ (ks : List Nd) (l : List Int), (∀ k l, k ∈ ks → (bCl c k l).1.isStmt = true ∧ (bCl c k l).1.good = true) → goodL true (bCs c ks l).1 = true ∧ (bCs c ks l).1.length = ks.length
  | [], _, _ => by simp [bCs, goodL]
  | k :: ks, l, h => by
    have h1 := h k l (by simp)
    have h2 := bCs_good c ks (bCl c k l).2 fun x l hx => h x l (by simp [hx])
    rw [bCs]
    simp [goodL, h1, h2]
theorem bC_good (c : Bool) {n : Nd} (l : List Int) (hm : n.nodes ≤ 400) (h : shCls (if c = true then shSimple else shList) n = true) (hs : ∀ k l, k.nodes ≤ n.nodes → shS k = true → (bS k l).1.isStmt = true ∧ (bS k l).1.good = true) : (bC c n l).1.isStmt = true ∧ (bC c n l).1.good = true := by
  obtain ⟨hk, hb⟩ := inv_shCls h
  obtain ⟨k, t, ks⟩ := n
  have hlen := nodes_len hm
  simp only [Nd.kids_mk] at hb
  have := bCs_good c ks l.tail (by
    intro x l hx
    obtain ⟨t1, h1, b1, rfl, hh, hb1⟩ := hb x hx
    have e1 := nodesL_mem hx
    simp only [Nd.nodes, nodesL] at e1 hm
    refine bCl_good c t1 h1 b1 l (by omega) ?_ hb1 fun k l hk hk2 => hs k l ?_ hk2
    · cases c <;> simpa using hh
    · have h2 := nodesL_mem hk
      simp only [Nd.nodes]
      omega)
  rw [bC, mkBlock]
  simp [Ast.good, this]
  omega
theorem bS_good : ∀ (m : Nat) (n : Nd) (l : List Int), n.nodes ≤ m → m ≤ 400 → shS n = true → (bS n l).1.isStmt = true ∧ (bS n l).1.good = true := by
  intro m
  induction m with
  | zero => intro n l hm; have := n.nodes_pos; omega
  | succ m ih =>
    intro n l hm h400 hs
    obtain ⟨k, t, ks⟩ := n
    have hlen : ks.length ≤ 400 := nodes_len (Nat.le_trans hm h400)
    have hks : ∀ x, x ∈ ks → x.nodes ≤ m := fun x hx => by have := nodesL_mem hx; simp only [Nd.nodes] at hm; omega
    have hkl : ∀ x, x ∈ ks → x.nodes ≤ 400 := fun x hx => by have := hks x hx; omega
    have hB : ∀ x l, x ∈ ks → shBlock x = true → (bB x l).1.isStmt = true ∧ (bB x l).1.good = true := fun x l hx hb => bB_good l hb (hkl x hx) fun y l hy hsy => ih y l (by
      have h1 := hks x hx
      have h2 := nodesL_mem hy
      rw [Nd.nodes_kids] at h1
      omega) (by omega) hsy
    have hC : ∀ c x l, x ∈ ks → shCls (if c = true then shSimple else shList) x = true → (bC c x l).1.isStmt = true ∧ (bC c x l).1.good = true := fun c x l hx hb => bC_good c l (hkl x hx) hb fun y l hy hsy => ih y l (Nat.le_trans hy (hks x hx)) (by omega) hsy
    have hk := shS_kind hs
    simp only [Nd.kind_mk, stmtKinds, List.mem_cons, List.not_mem_nil, or_false] at hk
    rcases hk with h | h | h | h | h | h | h | h | h | h | h | h | h | h | h | h
    · exact simple_good l (shS_simple (by simp [h]) hs) (by omega)
    · exact simple_good l (shS_simple (by simp [h]) hs) (by omega)
    · exact simple_good l (shS_simple (by simp [h]) hs) (by omega)
    · exact simple_good l (shS_simple (by simp [h]) hs) (by omega)
    · obtain ⟨a, rfl, ha, -⟩ := inv_go (Or.inl h) hs
      obtain rfl := ba_of h
      simp [bS, mkGo, Ast.good, bE_good' ha (hkl a (by simp))]
    · obtain ⟨a, rfl, ha, -⟩ := inv_go (Or.inr h) hs
      obtain rfl := ba_of h
      simp [bS, mkDefer, Ast.good, bE_good' ha (hkl a (by simp))]
    · obtain rfl := ba_of h
      have ha := inv_return hs
      rw [bS_ret, mkRet]
      simp [Ast.good, bEs_good' ha (by simp only [Nd.nodes] at hm; omega)]
    · obtain rfl := ba_of h
      rcases inv_branch hs with rfl | ⟨a, rfl, ha, hn⟩
      · simp [bS, mkBranch, Ast.good, goodO, tokR_word]
      · simp [bS, mkBranch, Ast.good, goodO, tokR_word]
    · obtain rfl := ba_of h
      obtain ⟨a, rfl, ha⟩ := inv_label hs
      simp [bS, mkLabel, Ast.good, ih a _ (hks a (by simp)) (by omega) ha]
    · obtain rfl := ba_of h
      have ha := inv_block hs
      have := bSs_good ks l.tail fun k l hk => ih k l (hks k hk) (by omega) (ha k hk)
      rw [bS_block, mkBlock]
      simp [Ast.good, this]
      omega
    · obtain rfl := ba_of h
      obtain ⟨a, b, c, d, rfl, ha, hb, hc, hd⟩ := inv_if hs
      have hdd : ∀ l l1, goodO true (optB d l1 (bS d l)).1 = true := fun l l1 => by
        cases hmn : miss d
        · rw [hmn] at hd
          have hd : shS d = true := by simpa using hd
          simp [optB, hmn, goodO, ih d l (hks d (by simp)) (by omega) hd]
        · simp [optB, hmn, goodO]
      simp [bS, mkIf, Ast.good, bE_good' hb (hkl b (by simp)), hB c _ (by simp) hc, optS_good _ _ ha (hkl a (by simp)), hdd]
    · obtain rfl := ba_of h
      obtain ⟨a, b, c, d, rfl, ha, hb, hc, hd⟩ := inv_for hs
      simp [bS, mkFor, bEO, Ast.good, optE_good _ _ hb (hkl b (by simp)), hB d _ (by simp) hd, optS_good _ _ ha (hkl a (by simp)), optS_good _ _ hc (hkl c (by simp))]
    · obtain rfl := ba_of h
      obtain ⟨a, b, c, d, rfl, hc, hd, ⟨ht, ha, hb⟩ | ⟨ht, ha, hb⟩⟩ := inv_range hs
      · simp [bS, ht, mkRange0, Ast.good, goodO, tokR, bE_good' hc (hkl c (by simp)), hB d _ (by simp) hd]
      · simp [bS, ht, mkRange, bEC, Ast.good, goodO, tokR_word, bE_good' hc (hkl c (by simp)), hB d _ (by simp) hd, bE_good' ha (hkl a (by simp)), optE_good _ _ hb (hkl b (by simp))]
    · obtain rfl := ba_of h
      obtain ⟨a, b, c, rfl, ha, hb, hc⟩ := inv_switch hs
      simp [bS, mkSwitch, bEO, Ast.good, optE_good _ _ hb (hkl b (by simp)), hC false c _ (by simp) (by simpa using hc), optS_good _ _ ha (hkl a (by simp))]
    · obtain rfl := ba_of h
      obtain ⟨a, b, c, rfl, ha, hb, hc⟩ := inv_types hs
      simp [bS, mkTypes, Ast.good, simple_good _ hb (hkl b (by simp)), hC false c _ (by simp) (by simpa using hc), optS_good _ _ ha (hkl a (by simp))]
    · obtain rfl := ba_of h
      obtain ⟨a, rfl, ha⟩ := inv_selects hs
      simp [bS, mkSelect, Ast.good, hC true a _ (by simp) (by simpa using ha)]
#print axioms bS_good
end Go.Proofs.YtkkgfgllfbahlaaGreatFmt

namespace Go.Proofs.YtkkgfgllfbahlaaGreatFmt
open Go Go.RowKit
set_option linter.unusedSimpArgs false

mutual
def XT.size : XT → Nat
  | .mk _ ks => 1 + sizeXs ks
def sizeXs : List XT → Nat
  | [] => 0
  | x :: r => x.size + sizeXs r
end
theorem sizeXs_append : ∀ a b : List XT, sizeXs (a ++ b) = sizeXs a + sizeXs b
  | [], b => by simp [sizeXs]
  | x :: r, b => by simp only [List.cons_append, sizeXs, sizeXs_append r b]; omega

theorem xtN_size_of (k t : ByteArray) (ks : List Nd) (h : sizeXs (xtB ks) ≤ 2 * nodesL ks) : (xtN (.mk k t ks)).size ≤ 2 * (1 + nodesL ks) := by
  rw [xtN, XT.size, sizeXs_append, sizeXs_append]
  by_cases hl : k.toList = [108, 97, 98, 101, 108]
  · have h2 : ¬ k.toList = [115, 101, 108, 101, 99, 116] := by rw [hl]; decide
    rw [if_pos hl, if_neg h2]
    simp only [sizeXs, XT.size]
    omega
  · rw [if_neg hl]
    have h2 : sizeXs (if k.toList = [115, 101, 108, 101, 99, 116] then [XT.mk ⟨#[110, 97, 109, 101]⟩ []] else []) ≤ 1 := by split <;> simp [sizeXs, XT.size]
    simp only [sizeXs]
    omega
mutual
theorem xt_size : ∀ n : Nd, (xtN n).size ≤ 2 * n.nodes ∧ sizeXs (xtF n) ≤ 2 * n.nodes
  | .mk k t ks => by
    have hb := xtB_size ks
    have hk := xtK_size ks
    have hn := xtN_size_of k t ks hb
    refine ⟨by rw [Nd.nodes]; exact hn, ?_⟩
    rw [xtF, Nd.nodes]
    split
    · omega
    · split
      · simp [sizeXs]
      · simp only [sizeXs]; omega
theorem xtB_size : ∀ ks : List Nd, sizeXs (xtB ks) ≤ 2 * nodesL ks
  | [] => by simp [xtB, sizeXs]
  | k :: ks => by
    have h1 := (xt_size k).2
    have h2 := xtB_size ks
    rw [xtB, sizeXs_append, nodesL]
    omega
theorem xtK_size : ∀ ks : List Nd, sizeXs (xtK ks) ≤ 2 * nodesL ks
  | [] => by simp [xtK, sizeXs]
  | k :: ks => by
    have h1 := (xt_size k).1
    have h2 := xtK_size ks
    rw [xtK, sizeXs, nodesL]
    omega
end

/-- A visitor: the values that stand for it, and what a visit answers and keeps. -/
structure Vis where
  T : Type
  S : Type
  val : T → Value
  step : T → Option ByteArray → S → Option T × S
mutual
/-- What Walk keeps. -/
def walkX (V : Vis) : XT → V.T → V.S → V.S
  | .mk k ks, t, s => match V.step t (some k) s with
    | (none, s') => s'
    | (some t', s') => (V.step t' none (walkXs V ks t' s')).2
def walkXs (V : Vis) : List XT → V.T → V.S → V.S
  | [], _, s => s
  | x :: r, t, s => walkXs V r t (walkX V x t s)
end
theorem walkXs_append (V : Vis) (t : V.T) : ∀ (a b : List XT) (s : V.S), walkXs V (a ++ b) t s = walkXs V b t (walkXs V a t s)
  | [], b, s => by simp [walkXs]
  | x :: r, b, s => by simp only [List.cons_append, walkXs, walkXs_append V t r b]

/-- The nodes below a node, as the plain reference tells them. -/
def belowN : Nd → List Nd
  | .mk k t ks => (if k.toList = [108, 97, 98, 101, 108] then [.mk ⟨#[110, 97, 109, 101]⟩ t []] else []) ++ (ks.flatMap fun n => if n.kind.toList = [108, 105, 115, 116] then n.kids else if n.kind.toList = [110, 111, 110, 101] then [] else [n]) ++ (if k.toList = [115, 101, 108, 101, 99, 116] then [.mk ⟨#[110, 97, 109, 101]⟩ t []] else [])
theorem xtK_map : ∀ ks : List Nd, xtK ks = ks.map xtN
  | [] => by simp [xtK]
  | k :: ks => by rw [xtK, xtK_map ks]; rfl
theorem xtB_map : ∀ ks : List Nd, xtB ks = (ks.flatMap fun n => if n.kind.toList = [108, 105, 115, 116] then n.kids else if n.kind.toList = [110, 111, 110, 101] then [] else [n]).map xtN
  | [] => by simp [xtB]
  | .mk k t ks :: r => by
    have ih := xtB_map r
    by_cases h1 : k.toList = [108, 105, 115, 116]
    · simp [xtB, xtF, h1, xtK_map, ih]
    · by_cases h2 : k.toList = [110, 111, 110, 101]
      · simp [xtB, xtF, h2, ih]
      · simp [xtB, xtF, h1, h2, ih]
theorem xtN_below (n : Nd) : xtN n = .mk n.kind ((belowN n).map xtN) := by
  obtain ⟨k, t, ks⟩ := n
  have hname : xtN (.mk ⟨#[110, 97, 109, 101]⟩ t []) = .mk ⟨#[110, 97, 109, 101]⟩ [] := by rw [xtN_plain _ _ _ (by simp) (by simp), xtB]
  rw [xtN, belowN, List.map_append, List.map_append, ← xtB_map, Nd.kind_mk]
  congr 3
  · split
    · simp [hname]
    · rfl
  · split
    · simp [hname]
    · rfl

/-- A kind, from, to. -/
abbrev Sp := ByteArray × Int × Int
mutual
/-- Visits. -/
def visX (stop : ByteArray) : XT → Int → List Sp
  | .mk k ks, d => (k, d, d) :: (if k = stop then [] else visXs stop ks (d + 1) ++ [(⟨#[]⟩, d + 1, d + 1)])
def visXs (stop : ByteArray) : List XT → Int → List Sp
  | [], _ => []
  | x :: r, d => visX stop x d ++ visXs stop r d
end
mutual
/-- Events. -/
def evX (stop : ByteArray) : XT → List ByteArray
  | .mk k ks => k :: (if k = stop then [] else evXs stop ks ++ [⟨#[]⟩])
def evXs (stop : ByteArray) : List XT → List ByteArray
  | [] => []
  | x :: r => evX stop x ++ evXs stop r
end
/-- The visitor of Visits. -/
@[reducible] def visV (val : Int → Value) (stop : ByteArray) : Vis := ⟨Int, List Sp, val, fun d k s => match k with
  | some k => (if k = stop then none else some (d + 1), s ++ [(k, d, d)])
  | none => (none, s ++ [(⟨#[]⟩, d, d)])⟩
theorem visV_some (val : Int → Value) (stop : ByteArray) (k : ByteArray) (ks : List XT) (d : Int) (s : List Sp) : walkX (visV val stop) (.mk k ks) d s = if k = stop then s ++ [(k, d, d)] else (walkXs (visV val stop) ks (d + 1) (s ++ [(k, d, d)]) : List Sp) ++ [(⟨#[]⟩, d + 1, d + 1)] := by
  unfold walkX
  by_cases h : k = stop
  · simp only [visV, h, if_true]
  · simp only [visV, h, if_false]
mutual
theorem visV_walk (val : Int → Value) (stop : ByteArray) : ∀ (x : XT) (d : Int) (s : List Sp), walkX (visV val stop) x d s = s ++ visX stop x d
  | .mk k ks, d, s => by
    rw [visV_some, visX]
    split
    · rfl
    · rw [visV_walks val stop ks (d + 1) (s ++ [(k, d, d)])]
      simp
theorem visV_walks (val : Int → Value) (stop : ByteArray) : ∀ (xs : List XT) (d : Int) (s : List Sp), walkXs (visV val stop) xs d s = s ++ visXs stop xs d
  | [], d, s => by
    unfold walkXs visXs
    exact (List.append_nil s).symm
  | x :: r, d, s => by
    unfold walkXs visXs
    exact (visV_walks val stop r d _).trans (by rw [visV_walk val stop x d s, List.append_assoc])
end
mutual
theorem visX_len (stop : ByteArray) : ∀ (x : XT) (d : Int), (visX stop x d).length ≤ 2 * x.size
  | .mk k ks, d => by
    have := visXs_len stop ks (d + 1)
    rw [visX, XT.size]
    split
    · simp; omega
    · simp; omega
theorem visXs_len (stop : ByteArray) : ∀ (xs : List XT) (d : Int), (visXs stop xs d).length ≤ 2 * sizeXs xs
  | [], _ => by simp [visXs]
  | x :: r, d => by
    have := visX_len stop x d
    have := visXs_len stop r d
    rw [visXs, sizeXs, List.length_append]
    omega
end
end Go.Proofs.YtkkgfgllfbahlaaGreatFmt

namespace Go.Proofs.YtkkgfgllfbahlaaGreatFmt
open Go Go.RowKit
set_option linter.unusedSimpArgs false

mutual
/-- Every list of the tree has parts. -/
def lnN : Nd → Bool
  | .mk k _ ks => (decide (k.toList ≠ [108, 105, 115, 116]) || !ks.isEmpty) && lnL ks
def lnL : List Nd → Bool
  | [] => true
  | k :: ks => lnN k && lnL ks
end
theorem lnL_iff : ∀ {ks : List Nd}, lnL ks = true ↔ ∀ k, k ∈ ks → lnN k = true
  | [] => by simp [lnL]
  | k :: ks => by simp [lnL, lnL_iff (ks := ks)]
theorem lnN_of {n : Nd} (hk : n.kind.toList ≠ [108, 105, 115, 116] ∨ n.kids ≠ []) (h : ∀ k, k ∈ n.kids → lnN k = true) : lnN n = true := by
  obtain ⟨k, t, ks⟩ := n
  simp only [Nd.kind_mk, Nd.kids_mk] at hk h
  rw [lnN, lnL_iff.2 h]
  rcases hk with hk | hk
  · simp [hk]
  · cases ks <;> simp at hk ⊢
theorem lnN_kids {n : Nd} (h : lnN n = true) : ∀ k, k ∈ n.kids → lnN k = true := by
  obtain ⟨k, t, ks⟩ := n
  rw [lnN, Bool.and_eq_true] at h
  exact lnL_iff.1 h.2
theorem lnN_list {n : Nd} (h : lnN n = true) (hk : n.kind.toList = [108, 105, 115, 116]) : n.kids ≠ [] := by
  obtain ⟨k, t, ks⟩ := n
  simp only [Nd.kind_mk] at hk
  rw [lnN, Bool.and_eq_true] at h
  have h1 := h.1
  simp [hk] at h1
  simpa using h1
theorem lnN_below {n : Nd} (h : lnN n = true) : ∀ k, k ∈ belowN n → lnN k = true := by
  have hk := lnN_kids h
  obtain ⟨k, t, ks⟩ := n
  simp only [Nd.kids_mk] at hk
  intro x hx
  have hname : lnN (.mk ⟨#[110, 97, 109, 101]⟩ t []) = true := by simp [lnN, lnL]
  simp only [belowN, List.mem_append] at hx
  rcases hx with (hx | hx) | hx
  · split at hx
    · simp at hx; rw [hx]; exact hname
    · simp at hx
  · rw [List.mem_flatMap] at hx
    obtain ⟨y, hy, hx⟩ := hx
    split at hx
    · exact lnN_kids (hk y hy) x hx
    · split at hx
      · simp at hx
      · simp at hx; rw [hx]; exact hk y hy
  · split at hx
    · simp at hx; rw [hx]; exact hname
    · simp at hx
theorem ln_miss {n : Nd} (h : miss n = true) : lnN n = true := by
  obtain ⟨k, t, ks⟩ := n
  simp [miss] at h
  obtain ⟨⟨h1, h2⟩, rfl⟩ := h
  exact lnN_of (.inl (by simp only [Nd.kind_mk]; rw [show k.toList = [110, 111, 110, 101] from of_decide_eq_true h1]; simp)) (by simp)
theorem shE_kids {n : Nd} (h : shE n = true) : ∀ k, k ∈ n.kids → shE k = true ∨ miss k = true := by
  obtain ⟨k, t, ks⟩ := n
  rw [shE_eq] at h
  simp only [Nd.kids_mk]
  split at h
  · obtain rfl : ks = [] := by simpa using h
    simp
  · split at h
    · match ks, h with
      | [], _ => simp
      | [_], h => simp [shE2] at h
      | _ :: _ :: _ :: _, h => simp [shE2] at h
      | [x, y], h =>
        simp only [shE2, Bool.and_eq_true, Bool.or_eq_true] at h
        intro z hz
        simp at hz
        rcases hz with rfl | rfl
        · exact .inl h.2.1
        · exact h.2.2.symm
    · simp only [Bool.and_eq_true, List.all_eq_true] at h
      exact fun z hz => .inl (h.1.2 z hz)
theorem ln_E : ∀ (m : Nat) (n : Nd), n.nodes ≤ m → shE n = true → lnN n = true := by
  intro m
  induction m with
  | zero => intro n hm; have := n.nodes_pos; omega
  | succ m ih =>
    intro n hm hs
    refine lnN_of (.inl ?_) fun k hk => ?_
    · intro e
      have := shE_kind hs
      rw [e] at this
      revert this
      decide
    · rcases shE_kids hs k hk with h | h
      · exact ih k (by have := nodesL_mem hk; have := Nd.nodes_kids n; omega) h
      · exact ln_miss h
theorem ln_E' {n : Nd} (h : shE n = true) : lnN n = true := ln_E n.nodes n (Nat.le_refl _) h
theorem ln_list {n : Nd} (h : shList n = true) : lnN n = true := by
  have h2 := (inv_list h).2
  refine lnN_of (.inr ?_) fun k hk => ln_E' (h2 k hk)
  intro e
  simp [shList, e] at h
theorem stmt_ne {n : Nd} (h : n.kind.toList ∈ stmtKinds) : n.kind.toList ≠ [108, 105, 115, 116] := by
  intro e
  rw [e] at h
  revert h
  decide
theorem ln_simple {n : Nd} (h : shSimple n = true) : lnN n = true := by
  refine lnN_of (.inl (stmt_ne (shSimple_kind h))) ?_
  obtain ⟨k, t, ks⟩ := n
  simp only [Nd.kids_mk]
  by_cases h1 : k.toList = [101, 120, 112, 114, 101, 115, 115, 105, 111, 110]
  · obtain rfl := ba_of h1
    obtain ⟨a, rfl, ha⟩ := inv_expression h
    intro x hx; simp at hx; subst hx; exact ln_E' ha
  by_cases h2 : k.toList = [115, 116, 101, 112]
  · obtain rfl := ba_of h2
    obtain ⟨a, rfl, ha⟩ := inv_step h
    intro x hx; simp at hx; subst hx; exact ln_E' ha
  by_cases h3 : k.toList = [115, 101, 110, 100]
  · obtain rfl := ba_of h3
    obtain ⟨a, b, rfl, ha, hb⟩ := inv_send h
    intro x hx; simp at hx; rcases hx with rfl | rfl
    · exact ln_E' ha
    · exact ln_E' hb
  by_cases h4 : k.toList = [97, 115, 115, 105, 103, 110]
  · obtain rfl := ba_of h4
    obtain ⟨a, b, rfl, ha, hb⟩ := inv_assign h
    intro x hx; simp at hx; rcases hx with rfl | rfl
    · exact ln_list ha
    · exact ln_list hb
  simp [shSimple, h1, h2, h3, h4] at h
theorem ln_or {n : Nd} {p : Prop} (h : miss n = true ∨ p) (hp : p → lnN n = true) : lnN n = true := h.elim ln_miss hp
theorem ln_S : ∀ (m : Nat) (n : Nd), n.nodes ≤ m → shS n = true → lnN n = true := by
  intro m
  induction m with
  | zero => intro n hm; have := n.nodes_pos; omega
  | succ m ih =>
    intro n hm hs
    refine lnN_of (.inl (stmt_ne (shS_kind hs))) ?_
    obtain ⟨k, t, ks⟩ := n
    simp only [Nd.kids_mk]
    have hks : ∀ x, x ∈ ks → x.nodes ≤ m := fun x hx => by have := nodesL_mem hx; simp only [Nd.nodes] at hm; omega
    have hB : ∀ x, x ∈ ks → shBlock x = true → lnN x = true := fun x hx hb => lnN_of (.inl (by rw [(inv_shBlock hb).1]; simp)) fun y hy => ih y (by
      have h1 := hks x hx
      have h2 := nodesL_mem hy
      rw [Nd.nodes_kids] at h1
      omega) ((inv_shBlock hb).2 y hy)
    have hC : ∀ (head : Nd → Bool), (∀ y, head y = true → lnN y = true) → ∀ x, x ∈ ks → shCls head x = true → lnN x = true := fun head hh x hx hb => lnN_of (.inl (by rw [(inv_shCls hb).1]; simp)) fun c hc => by
      have h1 := hks x hx
      have h2 := nodesL_mem hc
      rw [Nd.nodes_kids] at h1
      obtain ⟨t1, h, b, rfl, hm1, hb1⟩ := (inv_shCls hb).2 c hc
      refine lnN_of (.inl (by simp)) fun y hy => ?_
      simp only [Nd.kids_mk] at hy
      rcases List.mem_cons.1 hy with rfl | hy
      · exact ln_or hm1 (hh y)
      · exact ih y (by have := nodesL_mem hy; simp only [Nd.nodes, nodesL] at h2; omega) (hb1 y hy)
    have hk := shS_kind hs
    simp only [Nd.kind_mk, stmtKinds, List.mem_cons, List.not_mem_nil, or_false] at hk
    rcases hk with h | h | h | h | h | h | h | h | h | h | h | h | h | h | h | h
    · exact lnN_kids (ln_simple (shS_simple (by simp [h]) hs))
    · exact lnN_kids (ln_simple (shS_simple (by simp [h]) hs))
    · exact lnN_kids (ln_simple (shS_simple (by simp [h]) hs))
    · exact lnN_kids (ln_simple (shS_simple (by simp [h]) hs))
    · obtain ⟨a, rfl, ha, -⟩ := inv_go (Or.inl h) hs
      intro x hx; simp at hx; subst hx; exact ln_E' ha
    · obtain ⟨a, rfl, ha, -⟩ := inv_go (Or.inr h) hs
      intro x hx; simp at hx; subst hx; exact ln_E' ha
    · obtain rfl := ba_of h
      exact fun x hx => ln_E' (inv_return hs x hx)
    · obtain rfl := ba_of h
      rcases inv_branch hs with rfl | ⟨a, rfl, ha, -⟩
      · simp
      · intro x hx; simp at hx; subst hx; exact ln_E' ha
    · obtain rfl := ba_of h
      obtain ⟨a, rfl, ha⟩ := inv_label hs
      intro x hx; simp at hx; subst hx; exact ih x (hks x (by simp)) ha
    · obtain rfl := ba_of h
      exact fun x hx => ih x (hks x hx) (inv_block hs x hx)
    · obtain rfl := ba_of h
      obtain ⟨a, b, c, d, rfl, ha, hb, hc, hd⟩ := inv_if hs
      intro x hx; simp at hx; rcases hx with rfl | rfl | rfl | rfl
      · exact ln_or ha ln_simple
      · exact ln_E' hb
      · exact hB x (by simp) hc
      · exact ln_or hd (ih x (hks x (by simp)))
    · obtain rfl := ba_of h
      obtain ⟨a, b, c, d, rfl, ha, hb, hc, hd⟩ := inv_for hs
      intro x hx; simp at hx; rcases hx with rfl | rfl | rfl | rfl
      · exact ln_or ha ln_simple
      · exact ln_or hb ln_E'
      · exact ln_or hc ln_simple
      · exact hB x (by simp) hd
    · obtain rfl := ba_of h
      obtain ⟨a, b, c, d, rfl, hc, hd, ⟨ht, ha, hb⟩ | ⟨ht, ha, hb⟩⟩ := inv_range hs
      · intro x hx; simp at hx; rcases hx with rfl | rfl | rfl | rfl
        · exact ln_miss ha
        · exact ln_miss hb
        · exact ln_E' hc
        · exact hB x (by simp) hd
      · intro x hx; simp at hx; rcases hx with rfl | rfl | rfl | rfl
        · exact ln_E' ha
        · exact ln_or hb ln_E'
        · exact ln_E' hc
        · exact hB x (by simp) hd
    · obtain rfl := ba_of h
      obtain ⟨a, b, c, rfl, ha, hb, hc⟩ := inv_switch hs
      intro x hx; simp at hx; rcases hx with rfl | rfl | rfl
      · exact ln_or ha ln_simple
      · exact ln_or hb ln_E'
      · exact hC shList (fun y => ln_list) x (by simp) hc
    · obtain rfl := ba_of h
      obtain ⟨a, b, c, rfl, ha, hb, hc⟩ := inv_types hs
      intro x hx; simp at hx; rcases hx with rfl | rfl | rfl
      · exact ln_or ha ln_simple
      · exact ln_simple hb
      · exact hC shList (fun y => ln_list) x (by simp) hc
    · obtain rfl := ba_of h
      obtain ⟨a, rfl, ha⟩ := inv_selects hs
      intro x hx; simp at hx; subst hx
      exact hC shSimple (fun y => ln_simple) x (by simp) ha
theorem ln_S' {n : Nd} (h : shS n = true) : lnN n = true := ln_S n.nodes n (Nat.le_refl _) h

theorem below_len (n : Nd) : (belowN n).length ≤ n.nodes := by
  obtain ⟨k, t, ks⟩ := n
  have h : ∀ ks : List Nd, (ks.flatMap fun n => if n.kind.toList = [108, 105, 115, 116] then n.kids else if n.kind.toList = [110, 111, 110, 101] then [] else [n]).length ≤ nodesL ks := by
    intro ks
    induction ks with
    | nil => simp
    | cons x r ih =>
      rw [List.flatMap_cons, List.length_append, nodesL]
      have hx : (if x.kind.toList = [108, 105, 115, 116] then x.kids else if x.kind.toList = [110, 111, 110, 101] then [] else [x]).length ≤ x.nodes := by
        have h1 := nodesL_length x.kids
        have h2 := Nd.nodes_kids x
        split
        · omega
        · split <;> simp <;> omega
      omega
  have := h ks
  simp only [belowN, List.length_append, Nd.nodes]
  by_cases hl : k.toList = [108, 97, 98, 101, 108]
  · rw [if_pos hl, if_neg (show ¬ k.toList = [115, 101, 108, 101, 99, 116] by rw [hl]; decide)]
    simp only [List.length_cons, List.length_nil]
    omega
  · rw [if_neg hl]
    split <;> simp only [List.length_cons, List.length_nil] <;> omega
end Go.Proofs.YtkkgfgllfbahlaaGreatFmt
