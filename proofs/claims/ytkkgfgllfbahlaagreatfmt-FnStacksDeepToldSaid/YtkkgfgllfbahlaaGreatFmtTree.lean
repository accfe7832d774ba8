/- Plain trees (kind, text, kids) and how a slice of impl.Node lies in memory; no program in sight.
Which trees are statements (the plain reference's Shaped), as plain functions; no program in sight.
What a statement of each kind has below it; no program in sight.
Words for walks: what a call leaves as it was (Bel), slices of one-cell values, function values on nodes.
Contracts of the small functions on slices: slices.Index, Contains, IndexFunc, ContainsFunc, spec.every, is, isExpr, missing, or, assignments, Prec. -/
import Derived.WalkKit
import Derived.WalkLawsBesides
import Derived.WalkSpells
import Derived.Test.YtkkgfgllfbahlaaGreatFmtProg
set_option linter.unusedVariables false
set_option linter.unusedSimpArgs false
namespace Go.Proofs.YtkkgfgllfbahlaaGreatFmt
open Go Go.RowKit

/-- A tree of plain nodes. -/
inductive Nd where
  | mk (kind text : ByteArray) (kids : List Nd)

def Nd.kind : Nd → ByteArray | .mk k _ _ => k
def Nd.text : Nd → ByteArray | .mk _ t _ => t
def Nd.kids : Nd → List Nd | .mk _ _ ks => ks
@[simp] theorem Nd.kind_mk (k t ks) : (Nd.mk k t ks).kind = k := rfl
@[simp] theorem Nd.text_mk (k t ks) : (Nd.mk k t ks).text = t := rfl
@[simp] theorem Nd.kids_mk (k t ks) : (Nd.mk k t ks).kids = ks := rfl

/-- A node as a value, its slice of kids given. -/
def nodeV (n : Nd) (kv : Value) : Value := .agg #[.string n.kind, .string n.text, kv]

mutual
/-- The slice value v holds the kids of a node, in blocks below N. -/
def NdK (N : Nat) (w : World) : Nd → Value → Prop
  | .mk _ _ ks, v => ((∃ oa cap, v = .slice oa 0 cap ∧ cap ≤ maxLen) ∧ ks = []) ∨ ∃ b o cap, v = .slice (some ⟨b, o, none⟩) ks.length cap ∧ ks.length ≤ cap ∧ cap ≤ maxLen ∧ RowK N w ks b o
/-- The nodes ks lie in block b from cell o on. -/
def RowK (N : Nat) (w : World) : List Nd → Nat → Nat → Prop
  | [], _, _ => True
  | k :: ks, b, o => ∃ v, b < N ∧ w.cell? ⟨b, o, none⟩ = some (.string k.kind) ∧ w.cell? ⟨b, o + 1, none⟩ = some (.string k.text) ∧ w.cell? ⟨b, o + 2, none⟩ = some v ∧ NdK N w k v ∧ RowK N w ks b (o + 3)
end

/-- The slice value v holds the nodes ks. -/
def SlK (N : Nat) (w : World) (ks : List Nd) (v : Value) : Prop :=
  ((∃ oa cap, v = .slice oa 0 cap ∧ cap ≤ maxLen) ∧ ks = []) ∨ ∃ b o cap, v = .slice (some ⟨b, o, none⟩) ks.length cap ∧ ks.length ≤ cap ∧ cap ≤ maxLen ∧ RowK N w ks b o

theorem NdK_iff {N w} {n : Nd} {v} : NdK N w n v ↔ SlK N w n.kids v := by
  cases n; simp [NdK, SlK]

/-- What lies below N lies on. -/
def Same (N : Nat) (w w' : World) : Prop := ∀ k, k < N → w'.heap[k]? = w.heap[k]?
theorem Same.refl (N w) : Same N w w := fun _ _ => rfl
theorem Same.trans {N a b c} (h : Same N a b) (k : Same N b c) : Same N a c := fun i hi => (k i hi).trans (h i hi)
theorem Same.mono {N M a b} (h : Same N a b) (hm : M ≤ N) : Same M a b := fun i hi => h i (Nat.lt_of_lt_of_le hi hm)
theorem Same.of_below {N : Nat} {w w' : World} (h : Below N w w') : Same N w w' := h.block
theorem Same.cell {N w w'} (h : Same N w w') {a : Addr} (ha : a.block < N) : w'.cell? a = w.cell? a := World.cell?_of_block (h _ ha)

mutual
theorem NdK.stay {N M : Nat} {w w' : World} (hm : N ≤ M) (h : Same N w w') : ∀ (n : Nd) (v : Value), NdK N w n v → NdK M w' n v
  | .mk _ _ ks, v, hv => by
    simp only [NdK] at hv ⊢
    rcases hv with hv | ⟨b, o, cap, e, h1, h2, hr⟩
    · exact .inl hv
    · exact .inr ⟨b, o, cap, e, h1, h2, RowK.stay hm h ks b o hr⟩
theorem RowK.stay {N M : Nat} {w w' : World} (hm : N ≤ M) (h : Same N w w') : ∀ (ks : List Nd) (b o : Nat), RowK N w ks b o → RowK M w' ks b o
  | [], _, _, _ => by simp [RowK]
  | k :: ks, b, o, hr => by
    simp only [RowK] at hr ⊢
    obtain ⟨v, hb, c0, c1, c2, hn, hr⟩ := hr
    exact ⟨v, Nat.lt_of_lt_of_le hb hm, (h.cell hb).trans c0, (h.cell hb).trans c1, (h.cell hb).trans c2, NdK.stay hm h k v hn, RowK.stay hm h ks b (o + 3) hr⟩
end

theorem SlK.stay {N M : Nat} {w w' : World} (hm : N ≤ M) (h : Same N w w') {ks : List Nd} {v : Value} (hv : SlK N w ks v) : SlK M w' ks v := by
  rcases hv with hv | ⟨b, o, cap, e, h1, h2, hr⟩
  · exact .inl hv
  · exact .inr ⟨b, o, cap, e, h1, h2, RowK.stay hm h ks b o hr⟩

/-- The i-th node of a row. -/
theorem RowK.get {N : Nat} {w : World} : ∀ {ks : List Nd} {b o i : Nat} {k : Nd}, RowK N w ks b o → ks[i]? = some k →
    ∃ v, b < N ∧ w.cell? ⟨b, o + 3 * i, none⟩ = some (.string k.kind) ∧ w.cell? ⟨b, o + 3 * i + 1, none⟩ = some (.string k.text) ∧ w.cell? ⟨b, o + 3 * i + 2, none⟩ = some v ∧ NdK N w k v
  | [], _, _, _, _, _, h => by simp at h
  | a :: ks, b, o, 0, k, hr, h => by
    simp only [List.getElem?_cons_zero, Option.some.injEq] at h
    subst h
    simp only [RowK] at hr
    obtain ⟨v, hb, c0, c1, c2, hn, _⟩ := hr
    exact ⟨v, hb, by simpa using c0, by simpa using c1, by simpa using c2, hn⟩
  | a :: ks, b, o, i + 1, k, hr, h => by
    simp only [RowK] at hr
    obtain ⟨_, _, _, _, _, _, hr⟩ := hr
    obtain ⟨v, hb, c0, c1, c2, hn⟩ := hr.get (i := i) (k := k) (by simpa using h)
    exact ⟨v, hb, by rw [← c0]; congr 2; omega, by rw [← c1]; congr 2; omega, by rw [← c2]; congr 2; omega, hn⟩

theorem RowK.drop {N : Nat} {w : World} : ∀ {ks : List Nd} {b o : Nat} (i : Nat), RowK N w ks b o → RowK N w (ks.drop i) b (o + 3 * i)
  | ks, _, _, 0, h => by simpa using h
  | [], _, _, _ + 1, _ => by simp [RowK]
  | a :: ks, b, o, i + 1, hr => by
    simp only [RowK] at hr
    obtain ⟨_, _, _, _, _, _, hr⟩ := hr
    have := hr.drop i
    simp only [List.drop_succ_cons]
    rw [show o + 3 * (i + 1) = o + 3 + 3 * i from by omega]
    exact this

mutual
/-- How many nodes. -/
def Nd.nodes : Nd → Nat
  | .mk _ _ ks => 1 + nodesL ks
def nodesL : List Nd → Nat
  | [] => 0
  | k :: ks => k.nodes + nodesL ks
end

theorem Nd.nodes_pos (n : Nd) : 0 < n.nodes := by cases n; simp only [Nd.nodes]; omega
theorem nodesL_mem : ∀ {ks : List Nd} {k : Nd}, k ∈ ks → k.nodes ≤ nodesL ks
  | [], _, h => by simp at h
  | a :: ks, k, h => by
    simp only [nodesL]
    rcases List.mem_cons.1 h with rfl | h
    · omega
    · have := nodesL_mem h; omega
theorem nodesL_length : ∀ (ks : List Nd), ks.length ≤ nodesL ks
  | [] => by simp [nodesL]
  | a :: ks => by have := nodesL_length ks; have := a.nodes_pos; simp only [nodesL, List.length_cons]; omega
theorem Nd.nodes_kids (n : Nd) : n.nodes = 1 + nodesL n.kids := by cases n; rfl

#print axioms RowK.get
end Go.Proofs.YtkkgfgllfbahlaaGreatFmt

namespace Go.Proofs.YtkkgfgllfbahlaaGreatFmt
open Go Go.RowKit

def Nd.kd (n : Nd) : List UInt8 := n.kind.toList
def Nd.tx (n : Nd) : List UInt8 := n.text.toList
@[simp] theorem Nd.kd_mk (k t ks) : (Nd.mk k t ks).kd = k.toList := rfl
@[simp] theorem Nd.tx_mk (k t ks) : (Nd.mk k t ks).tx = t.toList := rfl

/-- The part is not there. -/
def miss (n : Nd) : Bool := decide (n.kd = [110, 111, 110, 101]) && decide (n.tx = []) && n.kids.isEmpty

def exprKinds : List (List UInt8) := [[110, 97, 109, 101], [108, 105, 116, 101, 114, 97, 108], [112, 97, 114, 101, 110], [117, 110, 97, 114, 121], [98, 105, 110, 97, 114, 121], [115, 101, 108, 101, 99, 116], [105, 110, 100, 101, 120], [99, 97, 108, 108], [97, 115, 115, 101, 114, 116]]
def assignOps : List (List UInt8) := [[61], [58, 61], [43, 61], [45, 61], [42, 61], [47, 61]]
def branchOps : List (List UInt8) := [[98, 114, 101, 97, 107], [99, 111, 110, 116, 105, 110, 117, 101], [103, 111, 116, 111], [102, 97, 108, 108, 116, 104, 114, 111, 117, 103, 104]]

def prec (t : List UInt8) : Nat :=
  if t = [124, 124] then 1 else if t = [38, 38] then 2 else if t = [61, 61] ∨ t = [33, 61] ∨ t = [60] then 3
  else if t = [43] ∨ t = [45] then 4 else if t = [42] ∨ t = [47] then 5 else 0

/-- How many nodes an expression of a kind has below it, and its text. -/
def arityOk (k t : List UInt8) (m : Nat) : Bool :=
  if k = [112, 97, 114, 101, 110] then decide (t = []) && decide (m = 1)
  else if k = [117, 110, 97, 114, 121] then (decide (t = [45]) || decide (t = [33])) && decide (m = 1)
  else if k = [98, 105, 110, 97, 114, 121] then decide (0 < prec t) && decide (m = 2)
  else if k = [115, 101, 108, 101, 99, 116] then decide (m = 1)
  else if k = [105, 110, 100, 101, 120] then decide (t = []) && decide (m = 2)
  else decide (t = []) && decide (0 < m)

mutual
def shE : Nd → Bool
  | .mk k t ks =>
    if k.toList = [110, 97, 109, 101] ∨ k.toList = [108, 105, 116, 101, 114, 97, 108] then ks.isEmpty
    else if k.toList = [97, 115, 115, 101, 114, 116] then decide (t.toList = []) && (match ks with | [a, b] => shE a && (miss b || shE b) | _ => false)
    else decide (k.toList ∈ exprKinds) && shEL ks && arityOk k.toList t.toList ks.length
def shEL : List Nd → Bool
  | [] => true
  | k :: ks => shE k && shEL ks
end
theorem shEL_all : ∀ ks : List Nd, shEL ks = ks.all shE
  | [] => rfl
  | k :: ks => by simp [shEL, shEL_all ks]

def shList (n : Nd) : Bool := decide (n.kd = [108, 105, 115, 116]) && decide (n.tx = []) && !n.kids.isEmpty && n.kids.all shE

def shSimple (n : Nd) : Bool :=
  if n.kd = [101, 120, 112, 114, 101, 115, 115, 105, 111, 110] then decide (n.tx = []) && (match n.kids with | [a] => shE a | _ => false)
  else if n.kd = [115, 116, 101, 112] then (decide (n.tx = [43, 43]) || decide (n.tx = [45, 45])) && (match n.kids with | [a] => shE a | _ => false)
  else if n.kd = [115, 101, 110, 100] then decide (n.tx = []) && decide (n.kids.length = 2) && n.kids.all shE
  else if n.kd = [97, 115, 115, 105, 103, 110] then decide (n.tx ∈ assignOps) && decide (n.kids.length = 2) && n.kids.all shList
  else false

def orM (f : Nd → Bool) (n : Nd) : Bool := miss n || f n

mutual
def shS : Nd → Bool
  | .mk k t ks =>
    if k.toList = [103, 111] ∨ k.toList = [100, 101, 102, 101, 114] then decide (t.toList = []) && (match ks with | [a] => shE a && decide (a.kd = [99, 97, 108, 108]) | _ => false)
    else if k.toList = [114, 101, 116, 117, 114, 110] then decide (t.toList = []) && ks.all shE
    else if k.toList = [98, 114, 97, 110, 99, 104] then decide (t.toList ∈ branchOps) && (match ks with | [] => true | [a] => shE a && decide (a.kd = [110, 97, 109, 101]) | _ => false)
    else if k.toList = [108, 97, 98, 101, 108] then (match ks with | [a] => shS a | _ => false)
    else if k.toList = [98, 108, 111, 99, 107] then decide (t.toList = []) && shSL ks
    else if k.toList = [114, 97, 110, 103, 101] then (match ks with
      | [a, b, c, d] => shE c && shBlock d && (if t.toList = [] then miss a && miss b else (decide (t.toList = [61]) || decide (t.toList = [58, 61])) && shE a && (miss b || shE b))
      | _ => false)
    else shSimple (.mk k t ks) || decide (t.toList = []) && (
      if k.toList = [105, 102] then (match ks with | [a, b, c, d] => orM shSimple a && shE b && shBlock c && (miss d || shS d) | _ => false)
      else if k.toList = [102, 111, 114] then (match ks with | [a, b, c, d] => orM shSimple a && orM shE b && orM shSimple c && shBlock d | _ => false)
      else if k.toList = [115, 119, 105, 116, 99, 104] then (match ks with | [a, b, c] => orM shSimple a && orM shE b && shCls shList c | _ => false)
      else if k.toList = [116, 121, 112, 101, 115] then (match ks with | [a, b, c] => orM shSimple a && shSimple b && shCls shList c | _ => false)
      else if k.toList = [115, 101, 108, 101, 99, 116, 115] then (match ks with | [a] => shCls shSimple a | _ => false)
      else false)
def shSL : List Nd → Bool
  | [] => true
  | k :: ks => shS k && shSL ks
def shBlock : Nd → Bool
  | .mk k t ks => decide (k.toList = [98, 108, 111, 99, 107]) && decide (t.toList = []) && shSL ks
def shCls (head : Nd → Bool) : Nd → Bool
  | .mk k t ks => decide (k.toList = [98, 108, 111, 99, 107]) && decide (t.toList = []) && shClL head ks
def shClL (head : Nd → Bool) : List Nd → Bool
  | [] => true
  | k :: ks => shCl head k && shClL head ks
def shCl (head : Nd → Bool) : Nd → Bool
  | .mk k t ks => decide (k.toList = [99, 108, 97, 117, 115, 101]) && decide (t.toList = []) && (match ks with | [] => false | h :: b => (miss h || head h) && shSL b)
end
theorem shSL_all : ∀ ks : List Nd, shSL ks = ks.all shS
  | [] => by simp [shSL]
  | k :: ks => by simp [shSL, shSL_all ks]
theorem shClL_all (head : Nd → Bool) : ∀ ks : List Nd, shClL head ks = ks.all (shCl head)
  | [] => by simp [shClL]
  | k :: ks => by simp [shClL, shClL_all head ks]

mutual
/-- Counting nodes off a number, as the reference does. -/
def cnt : Nd → Int → Int → Bool × Int
  | .mk _ _ ks, left, deep => if left - 1 < 0 ∨ 60 < deep ∨ left - 1 < ks.length then (false, left - 1) else cntL ks (left - 1) (deep + 1)
def cntL : List Nd → Int → Int → Bool × Int
  | [], l, _ => (true, l)
  | k :: ks, l, d => if (cnt k l d).1 then cntL ks (cnt k l d).2 d else (false, (cnt k l d).2)
end
def few (n : Nd) : Bool := (cnt n 400 0).1
def shaped (n : Nd) : Bool := few n && shS n

mutual
theorem cnt_nodes : ∀ (n : Nd) (l d : Int), (cnt n l d).1 = true → (n.nodes : Int) = l - (cnt n l d).2 ∧ 0 ≤ (cnt n l d).2
  | .mk k t ks, l, d => by
    simp only [cnt]
    split
    · intro h; simp at h
    · intro h
      have := cntL_nodes ks (l - 1) (d + 1) (by omega) h
      simp only [Nd.nodes]
      omega
theorem cntL_nodes : ∀ (ks : List Nd) (l d : Int), 0 ≤ l → (cntL ks l d).1 = true → (nodesL ks : Int) = l - (cntL ks l d).2 ∧ 0 ≤ (cntL ks l d).2
  | [], l, d => by simp [cntL, nodesL]
  | k :: ks, l, d => by
    intro h0
    simp only [cntL]
    split
    · rename_i hk
      intro h
      have h1 := cnt_nodes k l d hk
      have h2 := cntL_nodes ks _ d h1.2 h
      simp only [nodesL]
      omega
    · intro h; simp at h
end
theorem few_nodes {n : Nd} (h : few n = true) : n.nodes ≤ 400 := by
  have := cnt_nodes n 400 0 h
  omega

#print axioms few_nodes
end Go.Proofs.YtkkgfgllfbahlaaGreatFmt

namespace Go.Proofs.YtkkgfgllfbahlaaGreatFmt
open Go Go.RowKit
set_option linter.unusedSimpArgs false

def goB : List Nd → Bool
  | [a] => shE a && decide (a.kd = [99, 97, 108, 108])
  | _ => false
def brB : List Nd → Bool
  | [] => true
  | [a] => shE a && decide (a.kd = [110, 97, 109, 101])
  | _ => false
def laB : List Nd → Bool
  | [a] => shS a
  | _ => false
def rngB (t : List UInt8) : List Nd → Bool
  | [a, b, c, d] => shE c && shBlock d && (if t = [] then miss a && miss b else (decide (t = [61]) || decide (t = [58, 61])) && shE a && orM shE b)
  | _ => false
def ifB : List Nd → Bool
  | [a, b, c, d] => orM shSimple a && shE b && shBlock c && orM shS d
  | _ => false
def forB : List Nd → Bool
  | [a, b, c, d] => orM shSimple a && orM shE b && orM shSimple c && shBlock d
  | _ => false
def swB : List Nd → Bool
  | [a, b, c] => orM shSimple a && orM shE b && shCls shList c
  | _ => false
def tyB : List Nd → Bool
  | [a, b, c] => orM shSimple a && shSimple b && shCls shList c
  | _ => false
def seB : List Nd → Bool
  | [a] => shCls shSimple a
  | _ => false
def headB (k : List UInt8) (ks : List Nd) : Bool :=
  if k = [105, 102] then ifB ks else if k = [102, 111, 114] then forB ks else if k = [115, 119, 105, 116, 99, 104] then swB ks else if k = [116, 121, 112, 101, 115] then tyB ks else if k = [115, 101, 108, 101, 99, 116, 115] then seB ks else false

theorem shS_eq (k t : ByteArray) (ks : List Nd) : shS (.mk k t ks) =
    if k.toList = [103, 111] ∨ k.toList = [100, 101, 102, 101, 114] then decide (t.toList = []) && goB ks
    else if k.toList = [114, 101, 116, 117, 114, 110] then decide (t.toList = []) && ks.all shE
    else if k.toList = [98, 114, 97, 110, 99, 104] then decide (t.toList ∈ branchOps) && brB ks
    else if k.toList = [108, 97, 98, 101, 108] then laB ks
    else if k.toList = [98, 108, 111, 99, 107] then decide (t.toList = []) && ks.all shS
    else if k.toList = [114, 97, 110, 103, 101] then rngB t.toList ks
    else shSimple (.mk k t ks) || decide (t.toList = []) && headB k.toList ks := by
  match ks with
  | [] => simp [shS, goB, brB, laB, rngB, headB, ifB, forB, swB, tyB, seB, shSL]
  | [a] => simp [shS, goB, brB, laB, rngB, headB, ifB, forB, swB, tyB, seB, shSL_all]
  | [a, b] => simp [shS, goB, brB, laB, rngB, headB, ifB, forB, swB, tyB, seB, shSL_all]
  | [a, b, c] => simp [shS, goB, brB, laB, rngB, headB, ifB, forB, swB, tyB, seB, orM, shSL_all]
  | [a, b, c, d] => simp [shS, goB, brB, laB, rngB, headB, ifB, forB, swB, tyB, seB, orM, shSL_all]
  | a :: b :: c :: d :: e :: r => simp [shS, goB, brB, laB, rngB, headB, ifB, forB, swB, tyB, seB, shSL_all]

def stmtKinds : List (List UInt8) := [[101, 120, 112, 114, 101, 115, 115, 105, 111, 110], [115, 101, 110, 100], [115, 116, 101, 112], [97, 115, 115, 105, 103, 110], [103, 111], [100, 101, 102, 101, 114], [114, 101, 116, 117, 114, 110], [98, 114, 97, 110, 99, 104], [108, 97, 98, 101, 108], [98, 108, 111, 99, 107], [105, 102], [102, 111, 114], [114, 97, 110, 103, 101], [115, 119, 105, 116, 99, 104], [116, 121, 112, 101, 115], [115, 101, 108, 101, 99, 116, 115]]
theorem ba_of {k : ByteArray} {l : List UInt8} (h : k.toList = l) : k = ⟨l.toArray⟩ := by
  subst h
  rcases k with ⟨⟨d⟩⟩
  simp
theorem shS_kind {n : Nd} (h : shS n = true) : n.kind.toList ∈ stmtKinds := by
  obtain ⟨k, t, ks⟩ := n
  simp only [Nd.kind_mk]
  by_cases hm : k.toList ∈ stmtKinds
  · exact hm
  · exfalso
    simp only [stmtKinds, List.mem_cons, not_or, List.not_mem_nil, not_false_eq_true, and_true] at hm
    obtain ⟨h1, h2, h3, h4, h5, h6, h7, h8, h9, h10, h11, h12, h13, h14, h15, h16⟩ := hm
    simp [shS_eq, headB, shSimple, h1, h2, h3, h4, h5, h6, h7, h8, h9, h10, h11, h12, h13, h14, h15, h16] at h
theorem shSimple_kind {n : Nd} (h : shSimple n = true) : n.kind.toList ∈ stmtKinds := by
  obtain ⟨k, t, ks⟩ := n
  simp only [Nd.kind_mk]
  by_cases hm : k.toList ∈ stmtKinds
  · exact hm
  · exfalso
    simp only [stmtKinds, List.mem_cons, not_or, List.not_mem_nil, not_false_eq_true, and_true] at hm
    obtain ⟨h1, h2, h3, h4, h5, h6, h7, h8, h9, h10, h11, h12, h13, h14, h15, h16⟩ := hm
    simp [shSimple, h1, h2, h3, h4] at h

theorem inv_expression {t : ByteArray} {ks : List Nd} (h : shSimple (.mk ⟨#[101, 120, 112, 114, 101, 115, 115, 105, 111, 110]⟩ t ks) = true) : ∃ a, ks = [a] ∧ shE a = true := by
  match ks, h with
  | [a], h => exact ⟨a, rfl, by simp [shSimple] at h; simp [h]⟩
  | [], h => simp [shSimple] at h
  | _ :: _ :: _, h => simp [shSimple] at h
theorem inv_step {t : ByteArray} {ks : List Nd} (h : shSimple (.mk ⟨#[115, 116, 101, 112]⟩ t ks) = true) : ∃ a, ks = [a] ∧ shE a = true := by
  match ks, h with
  | [a], h => exact ⟨a, rfl, by simp [shSimple] at h; simp [h]⟩
  | [], h => simp [shSimple] at h
  | _ :: _ :: _, h => simp [shSimple] at h
theorem inv_send {t : ByteArray} {ks : List Nd} (h : shSimple (.mk ⟨#[115, 101, 110, 100]⟩ t ks) = true) : ∃ x y, ks = [x, y] ∧ shE x = true ∧ shE y = true := by
  match ks, h with
  | [a, b], h => exact ⟨a, b, rfl, by simp [shSimple] at h; simp [h]⟩
  | [], h => simp [shSimple] at h
  | [_], h => simp [shSimple] at h
  | _ :: _ :: _ :: _, h => simp [shSimple] at h
theorem inv_assign {t : ByteArray} {ks : List Nd} (h : shSimple (.mk ⟨#[97, 115, 115, 105, 103, 110]⟩ t ks) = true) : ∃ x y, ks = [x, y] ∧ shList x = true ∧ shList y = true := by
  match ks, h with
  | [a, b], h => exact ⟨a, b, rfl, by simp [shSimple] at h; simp [h]⟩
  | [], h => simp [shSimple] at h
  | [_], h => simp [shSimple] at h
  | _ :: _ :: _ :: _, h => simp [shSimple] at h
theorem inv_list {n : Nd} (h : shList n = true) : n.kind.toList = [108, 105, 115, 116] ∧ ∀ k, k ∈ n.kids → shE k = true := by
  simp only [shList, Bool.and_eq_true, decide_eq_true_eq, List.all_eq_true] at h
  exact ⟨h.1.1.1, h.2⟩

theorem shS_simple {n : Nd} (hk : n.kind.toList = [101, 120, 112, 114, 101, 115, 115, 105, 111, 110] ∨ n.kind.toList = [115, 101, 110, 100] ∨ n.kind.toList = [115, 116, 101, 112] ∨ n.kind.toList = [97, 115, 115, 105, 103, 110]) (h : shS n = true) : shSimple n = true := by
  obtain ⟨k, t, ks⟩ := n
  simp only [Nd.kind_mk] at hk
  rcases hk with hk | hk | hk | hk <;> simpa [shS_eq, headB, hk] using h
theorem inv_go {k t : ByteArray} {ks : List Nd} (hk : k.toList = [103, 111] ∨ k.toList = [100, 101, 102, 101, 114]) (h : shS (.mk k t ks) = true) : ∃ a, ks = [a] ∧ shE a = true ∧ a.kd = [99, 97, 108, 108] := by
  match ks, h with
  | [a], h => exact ⟨a, rfl, by simp [shS_eq, goB, hk] at h; exact ⟨h.2.1, h.2.2⟩⟩
  | [], h => simp [shS_eq, goB, hk] at h
  | _ :: _ :: _, h => simp [shS_eq, goB, hk] at h
theorem inv_return {t : ByteArray} {ks : List Nd} (h : shS (.mk ⟨#[114, 101, 116, 117, 114, 110]⟩ t ks) = true) : ∀ k, k ∈ ks → shE k = true := by
  simp [shS_eq, brB, laB, rngB, orM] at h
  exact h.2
theorem inv_branch {t : ByteArray} {ks : List Nd} (h : shS (.mk ⟨#[98, 114, 97, 110, 99, 104]⟩ t ks) = true) : ks = [] ∨ ∃ a, ks = [a] ∧ shE a = true ∧ a.kd = [110, 97, 109, 101] := by
  match ks, h with
  | [], _ => exact .inl rfl
  | [a], h => exact .inr ⟨a, rfl, by simp [shS_eq, brB, laB, rngB, orM] at h; exact ⟨h.2.1, h.2.2⟩⟩
  | _ :: _ :: _, h => simp [shS_eq, brB, laB, rngB, orM] at h
theorem inv_label {t : ByteArray} {ks : List Nd} (h : shS (.mk ⟨#[108, 97, 98, 101, 108]⟩ t ks) = true) : ∃ a, ks = [a] ∧ shS a = true := by
  match ks, h with
  | [a], h => exact ⟨a, rfl, by simpa [shS_eq, brB, laB, rngB, orM] using h⟩
  | [], h => simp [shS_eq, brB, laB, rngB, orM] at h
  | _ :: _ :: _, h => simp [shS_eq, brB, laB, rngB, orM] at h
theorem inv_block {t : ByteArray} {ks : List Nd} (h : shS (.mk ⟨#[98, 108, 111, 99, 107]⟩ t ks) = true) : ∀ k, k ∈ ks → shS k = true := by
  simp [shS_eq] at h
  exact h.2
theorem inv_shBlock {n : Nd} (h : shBlock n = true) : n.kind = ⟨#[98, 108, 111, 99, 107]⟩ ∧ ∀ k, k ∈ n.kids → shS k = true := by
  obtain ⟨k, t, ks⟩ := n
  simp only [shBlock, shSL_all, Bool.and_eq_true, decide_eq_true_eq, List.all_eq_true] at h
  exact ⟨ba_of h.1.1, h.2⟩
theorem inv_shCls {head : Nd → Bool} {n : Nd} (h : shCls head n = true) : n.kind = ⟨#[98, 108, 111, 99, 107]⟩ ∧ ∀ c, c ∈ n.kids → ∃ t h b, c = .mk ⟨#[99, 108, 97, 117, 115, 101]⟩ t (h :: b) ∧ (miss h = true ∨ head h = true) ∧ ∀ k, k ∈ b → shS k = true := by
  obtain ⟨k, t, ks⟩ := n
  simp only [shCls, shClL_all, Bool.and_eq_true, decide_eq_true_eq, List.all_eq_true] at h
  refine ⟨ba_of h.1.1, fun c hc => ?_⟩
  have hc := h.2 c hc
  obtain ⟨k1, t1, ks1⟩ := c
  match ks1, hc with
  | [], hc => simp [shCl] at hc
  | x :: b, hc =>
    simp only [shCl, shSL_all, Bool.and_eq_true, decide_eq_true_eq, List.all_eq_true, Bool.or_eq_true] at hc
    obtain rfl := ba_of hc.1.1
    exact ⟨t1, x, b, rfl, hc.2.1, hc.2.2⟩
theorem inv_range {t : ByteArray} {ks : List Nd} (h : shS (.mk ⟨#[114, 97, 110, 103, 101]⟩ t ks) = true) : ∃ a b c d, ks = [a, b, c, d] ∧ shE c = true ∧ shBlock d = true ∧
    ((t.toList = [] ∧ miss a = true ∧ miss b = true) ∨ (t.toList ≠ [] ∧ shE a = true ∧ (miss b = true ∨ shE b = true))) := by
  match ks, h with
  | [a, b, c, d], h =>
    refine ⟨a, b, c, d, rfl, ?_⟩
    simp [shS_eq, brB, laB, rngB, orM] at h
    obtain ⟨⟨hc, hd⟩, h⟩ := h
    refine ⟨hc, hd, ?_⟩
    split at h
    · rename_i ht
      exact .inl ⟨ht, by simpa using h⟩
    · rename_i ht
      exact .inr ⟨ht, h.1.2, h.2⟩
  | [], h => simp [shS_eq, brB, laB, rngB, orM] at h
  | [_], h => simp [shS_eq, brB, laB, rngB, orM] at h
  | [_, _], h => simp [shS_eq, brB, laB, rngB, orM] at h
  | [_, _, _], h => simp [shS_eq, brB, laB, rngB, orM] at h
  | _ :: _ :: _ :: _ :: _ :: _, h => simp [shS_eq, brB, laB, rngB, orM] at h
theorem inv_if {t : ByteArray} {ks : List Nd} (h : shS (.mk ⟨#[105, 102]⟩ t ks) = true) : ∃ a b c d, ks = [a, b, c, d] ∧ (miss a = true ∨ shSimple a = true) ∧ shE b = true ∧ shBlock c = true ∧ (miss d = true ∨ shS d = true) := by
  match ks, h with
  | [a, b, c, d], h =>
    refine ⟨a, b, c, d, rfl, ?_⟩
    simp [shS_eq, headB, ifB, forB, swB, tyB, seB, orM, show shSimple (.mk ⟨#[105, 102]⟩ t [a, b, c, d]) = false by simp [shSimple]] at h
    exact ⟨h.2.1.1.1, h.2.1.1.2, h.2.1.2, h.2.2⟩
  | [], h => simp [shS_eq, headB, ifB, forB, swB, tyB, seB, shSimple] at h
  | [_], h => simp [shS_eq, headB, ifB, forB, swB, tyB, seB, shSimple] at h
  | [_, _], h => simp [shS_eq, headB, ifB, forB, swB, tyB, seB, shSimple] at h
  | [_, _, _], h => simp [shS_eq, headB, ifB, forB, swB, tyB, seB, shSimple] at h
  | _ :: _ :: _ :: _ :: _ :: _, h => simp [shS_eq, headB, ifB, forB, swB, tyB, seB, shSimple] at h
theorem inv_for {t : ByteArray} {ks : List Nd} (h : shS (.mk ⟨#[102, 111, 114]⟩ t ks) = true) : ∃ a b c d, ks = [a, b, c, d] ∧ (miss a = true ∨ shSimple a = true) ∧ (miss b = true ∨ shE b = true) ∧ (miss c = true ∨ shSimple c = true) ∧ shBlock d = true := by
  match ks, h with
  | [a, b, c, d], h =>
    refine ⟨a, b, c, d, rfl, ?_⟩
    simp [shS_eq, headB, ifB, forB, swB, tyB, seB, orM, show shSimple (.mk ⟨#[102, 111, 114]⟩ t [a, b, c, d]) = false by simp [shSimple]] at h
    exact ⟨h.2.1.1.1, h.2.1.1.2, h.2.1.2, h.2.2⟩
  | [], h => simp [shS_eq, headB, ifB, forB, swB, tyB, seB, shSimple] at h
  | [_], h => simp [shS_eq, headB, ifB, forB, swB, tyB, seB, shSimple] at h
  | [_, _], h => simp [shS_eq, headB, ifB, forB, swB, tyB, seB, shSimple] at h
  | [_, _, _], h => simp [shS_eq, headB, ifB, forB, swB, tyB, seB, shSimple] at h
  | _ :: _ :: _ :: _ :: _ :: _, h => simp [shS_eq, headB, ifB, forB, swB, tyB, seB, shSimple] at h
theorem inv_switch {t : ByteArray} {ks : List Nd} (h : shS (.mk ⟨#[115, 119, 105, 116, 99, 104]⟩ t ks) = true) : ∃ a b c, ks = [a, b, c] ∧ (miss a = true ∨ shSimple a = true) ∧ (miss b = true ∨ shE b = true) ∧ shCls shList c = true := by
  match ks, h with
  | [a, b, c], h =>
    refine ⟨a, b, c, rfl, ?_⟩
    simp [shS_eq, headB, ifB, forB, swB, tyB, seB, orM, show shSimple (.mk ⟨#[115, 119, 105, 116, 99, 104]⟩ t [a, b, c]) = false by simp [shSimple]] at h
    exact ⟨h.2.1.1, h.2.1.2, h.2.2⟩
  | [], h => simp [shS_eq, headB, ifB, forB, swB, tyB, seB, shSimple] at h
  | [_], h => simp [shS_eq, headB, ifB, forB, swB, tyB, seB, shSimple] at h
  | [_, _], h => simp [shS_eq, headB, ifB, forB, swB, tyB, seB, shSimple] at h
  | _ :: _ :: _ :: _ :: _, h => simp [shS_eq, headB, ifB, forB, swB, tyB, seB, shSimple] at h
theorem inv_types {t : ByteArray} {ks : List Nd} (h : shS (.mk ⟨#[116, 121, 112, 101, 115]⟩ t ks) = true) : ∃ a b c, ks = [a, b, c] ∧ (miss a = true ∨ shSimple a = true) ∧ shSimple b = true ∧ shCls shList c = true := by
  match ks, h with
  | [a, b, c], h =>
    refine ⟨a, b, c, rfl, ?_⟩
    simp [shS_eq, headB, ifB, forB, swB, tyB, seB, orM, show shSimple (.mk ⟨#[116, 121, 112, 101, 115]⟩ t [a, b, c]) = false by simp [shSimple]] at h
    exact ⟨h.2.1.1, h.2.1.2, h.2.2⟩
  | [], h => simp [shS_eq, headB, ifB, forB, swB, tyB, seB, shSimple] at h
  | [_], h => simp [shS_eq, headB, ifB, forB, swB, tyB, seB, shSimple] at h
  | [_, _], h => simp [shS_eq, headB, ifB, forB, swB, tyB, seB, shSimple] at h
  | _ :: _ :: _ :: _ :: _, h => simp [shS_eq, headB, ifB, forB, swB, tyB, seB, shSimple] at h
theorem inv_selects {t : ByteArray} {ks : List Nd} (h : shS (.mk ⟨#[115, 101, 108, 101, 99, 116, 115]⟩ t ks) = true) : ∃ a, ks = [a] ∧ shCls shSimple a = true := by
  match ks, h with
  | [a], h =>
    refine ⟨a, rfl, ?_⟩
    simp [shS_eq, headB, seB, show shSimple (.mk ⟨#[115, 101, 108, 101, 99, 116, 115]⟩ t [a]) = false by simp [shSimple]] at h
    exact h.2
  | [], h => simp [shS_eq, headB, ifB, forB, swB, tyB, seB, shSimple] at h
  | _ :: _ :: _, h => simp [shS_eq, headB, ifB, forB, swB, tyB, seB, shSimple] at h
end Go.Proofs.YtkkgfgllfbahlaaGreatFmt

namespace Go.Proofs.YtkkgfgllfbahlaaGreatFmt
open Go Go.RowKit

theorem hide {p : Prop} (h : p) : Hid p := h

/-- Whatever lay in w lies as it lay. -/
def Bel (w w' : World) : Prop := Below w.heap.size w w'
theorem Bel.refl (w : World) : Bel w w := Below.refl _ _
theorem Bel.alloc {w w1 : World} (h : Bel w w1) (o : Obj) : Bel w (w1.alloc o) := Below.alloc h h.size o
theorem Bel.drew {w w1 : World} (h : Bel w w1) : Bel w w1.drew := Below.drew h
theorem Bel.trans {w w1 w2 : World} (h : Bel w w1) (k : Bel w1 w2) : Bel w w2 := Below.trans h (Below.mono k h.size)
theorem Bel.set {w w1 : World} (h : Bel w w1) {p : Addr} (hp : w.heap.size ≤ p.block) (v : Value) : Bel w (w1.setCell p v) := Below.setCell h hp v
theorem Bel.le {w w1 : World} (h : Bel w w1) : w.heap.size ≤ w1.heap.size := h.size
theorem Bel.same {w w1 : World} (h : Bel w w1) {N : Nat} (hN : N ≤ w.heap.size) : Same N w w1 := fun k hk => h.block k (Nat.lt_of_lt_of_le hk hN)
theorem Bel.cell {w w1 : World} (h : Bel w w1) : ∀ b o, b < w.heap.size → w1.cell? ⟨b, o, none⟩ = w.cell? ⟨b, o, none⟩ := fun b o hb => Below.cell (p := ⟨b, o, none⟩) h hb
theorem Bel.frozen {w w1 : World} (h : Bel w w1) : ∀ b o, b < w.heap.size → w1.frozen? ⟨b, o, none⟩ = w.frozen? ⟨b, o, none⟩ := fun b o hb => Below.frozen (p := ⟨b, o, none⟩) h hb
theorem Bel.cellN {w w1 : World} (h : Bel w w1) {N : Nat} (hN : w.heap.size = N) : ∀ b o, b < N → w1.cell? ⟨b, o, none⟩ = w.cell? ⟨b, o, none⟩ := by subst hN; exact h.cell
theorem Bel.grown {w w1 : World} (h : w.grownBy w1 none) : Bel w w1 := ⟨h.os, h.tape, h.output, h.size, fun k hk => h.block k hk (by simp)⟩

theorem NdK.later {w w1 : World} (h : Bel w w1) {n : Nd} {v : Value} (hv : NdK w.heap.size w n v) : NdK w1.heap.size w1 n v := hv.stay h.le (h.same (Nat.le_refl _)) 
theorem SlK.later {w w1 : World} (h : Bel w w1) {ks : List Nd} {v : Value} (hv : SlK w.heap.size w ks v) : SlK w1.heap.size w1 ks v := hv.stay h.le (h.same (Nat.le_refl _)) 

/-- One-cell values lie in block b from cell o on. -/
def CellsAt (w : World) (b o : Nat) (vs : List Value) : Prop := ∀ i v, vs[i]? = some v → w.cell? ⟨b, o + i, none⟩ = some v
/-- The slice value v holds the one-cell values vs. -/
def SlV (w : World) (v : Value) (vs : List Value) : Prop :=
  (v = .slice none 0 0 ∧ vs = []) ∨ ∃ b o cap, v = .slice (some ⟨b, o, none⟩) vs.length cap ∧ vs.length ≤ cap ∧ cap ≤ maxLen ∧ CellsAt w b o vs

theorem CellsAt.lt {w : World} {b o : Nat} {vs : List Value} (h : CellsAt w b o vs) {i : Nat} {v : Value} (hi : vs[i]? = some v) : b < w.heap.size :=
  World.block_lt_of_cell? w ⟨b, o + i, none⟩ (h i v hi)
theorem CellsAt.later {w w1 : World} (h : Bel w w1) {b o : Nat} {vs : List Value} (hv : CellsAt w b o vs) : CellsAt w1 b o vs :=
  fun i v hi => (h.cell b (o + i) (hv.lt hi)).trans (hv i v hi)
theorem SlV.later {w w1 : World} (h : Bel w w1) {v : Value} {vs : List Value} (hv : SlV w v vs) : SlV w1 v vs := by
  rcases hv with hv | ⟨b, o, cap, e, h1, h2, hr⟩
  · exact .inl hv
  · exact .inr ⟨b, o, cap, e, h1, h2, hr.later h⟩

/-- A function value on nodes that tells p, from world w0 on. -/
def FnAt (f : FuncId) (lb : Array Value) (p : Nd → Bool) (w0 : World) (ks : List Nd) : Prop :=
  ∀ k, k ∈ ks → ∀ kv w, Bel w0 w → NdK w.heap.size w k kv →
    Calls Tryz.prog f (#[nodeV k kv] ++ lb) w fun e w' => e = .returned (.bool (p k)) ∧ Bel w w'
theorem FnAt.later {f : FuncId} {lb : Array Value} {p : Nd → Bool} {w0 w1 : World} {ks : List Nd} (h : FnAt f lb p w0 ks) (hb : Bel w0 w1) : FnAt f lb p w1 ks :=
  fun k hk kv w hw hkv => h k hk kv w (hb.trans hw) hkv

def idxF {α : Type} (p : α → Bool) (ks : List α) : Int := match ks.findIdx? p with | some i => i | none => -1

theorem idxF_found {α : Type} {p : α → Bool} {ks : List α} {i : Nat} {k : α} (hk : ks[i]? = some k) (hp : p k = true) (hn : ∀ j, j < i → ∀ x, ks[j]? = some x → p x = false) : idxF p ks = i := by
  unfold idxF
  have : ks.findIdx? p = some i := by
    rw [List.findIdx?_eq_some_iff_getElem]
    obtain ⟨hi, he⟩ := List.getElem?_eq_some_iff.1 hk
    refine ⟨hi, by rw [he]; exact hp, fun j hj => ?_⟩
    have := hn j hj ks[j] (List.getElem?_eq_getElem _)
    simp [this]
  rw [this]
theorem idxF_none {α : Type} {p : α → Bool} {ks : List α} (hn : ∀ j, j < ks.length → ∀ x, ks[j]? = some x → p x = false) : idxF p ks = -1 := by
  unfold idxF
  have : ks.findIdx? p = none := by
    rw [List.findIdx?_eq_none_iff]
    intro x hx
    obtain ⟨j, hj, he⟩ := List.getElem_of_mem hx
    exact hn j hj x (List.getElem?_eq_some_iff.2 ⟨hj, he⟩)
  rw [this]
theorem idxF_any {α : Type} (p : α → Bool) (ks : List α) : decide (0 ≤ idxF p ks) = ks.any p := by
  unfold idxF
  cases h : ks.findIdx? p with
  | none =>
    rw [List.findIdx?_eq_none_iff] at h
    symm
    simpa using h
  | some i =>
    rw [List.findIdx?_eq_some_iff_getElem] at h
    obtain ⟨hi, hp, _⟩ := h
    have : ks.any p = true := List.any_eq_true.2 ⟨ks[i], List.getElem_mem _, hp⟩
    rw [this]; simp

theorem toList_lit (l : List UInt8) : (⟨l.toArray⟩ : ByteArray).toList = l := by simp

#print axioms idxF_any
end Go.Proofs.YtkkgfgllfbahlaaGreatFmt

namespace Go.Proofs.YtkkgfgllfbahlaaGreatFmt
open Go Go.RowKit

def strV (s : ByteArray) : Value := .string s
/-- A search has found nothing among the first k; nothing has turned. -/
def RelS {α : Type} (p : α → Bool) (ks : List α) (w : World) (c : Value) (wr : World) : Prop := ∃ k : Nat, k ≤ ks.length ∧ c = .int .i64 k ∧ (∀ j, j < k → ∀ x, ks[j]? = some x → p x = false) ∧ w = wr
def RelB {α : Type} (p : α → Bool) (ks : List α) (w : World) (c : Value) (wr : World) : Prop := ∃ k : Nat, k ≤ ks.length ∧ c = .int .i64 k ∧ (∀ j, j < k → ∀ x, ks[j]? = some x → p x = false) ∧ Bel w wr

set_option maxHeartbeats 400000 in
theorem indexStr_any (w : World) (ss : List ByteArray) (v : Value) (x : ByteArray) (hv : SlV w v (ss.map strV)) :
    Calls Tryz.prog 63 #[v, .string x] w fun e w' => e = .returned (.int .i64 (idxF (fun s => decide (x.toList = s.toList)) ss)) ∧ w = w' := by
  rcases hv with ⟨rfl, he⟩ | ⟨b, o, cap, rfl, hc, hm, hr⟩
  · obtain rfl : ss = [] := by simpa using he
    clear he
    go_enter Tryz.func63, Tryz.ntmps63
    go_wp2_with fail
    refine wp_loop_rounds 1 ?_
    rw [rounds_succ]
    go_wp2_with fail
    go_ret
    exact ⟨rfl, rfl⟩
  · unfold maxLen at hm
    simp only [List.length_map] at hc ⊢
    have HR := hide hr; clear hr
    go_enter Tryz.func63, Tryz.ntmps63
    go_wp2_with fail
    go_loopw [8] (fun c wr => RelS (fun s : ByteArray => decide (x.toList = s.toList)) ss w c wr) (fun c _ => ss.length - (intOf c).toNat)
    case atStart => exact ⟨0, Nat.zero_le _, rfl, by omega, rfl⟩
    case round =>
      obtain ⟨k, hk, rfl, hno, rfl⟩ := hrel
      have HN := hide hno; clear hno
      by_cases hlt : k < ss.length
      · obtain ⟨y, hy⟩ : ∃ y, ss[k]? = some y := ⟨ss[k], by simp⟩
        have c0 := HR.out k (strV y) (by simp [hy])
        unfold strV at c0
        have HY := hide hy; clear hy
        by_cases hxy : x.toList = y.toList
        · have HXY := hide hxy
          have hq : (x.toList == y.toList) = true := by simp [hxy]
          clear hxy
          go_wp2_with fail
          go_ret
          exact ⟨by rw [idxF_found HY.out (by simpa using HXY.out) HN.out]; rfl, rfl⟩
        · have HXY := hide hxy
          have hq : (x.toList == y.toList) = false := by simp [hxy]
          clear hxy
          go_wp2_with fail
          go_roundw
          case rel =>
            refine ⟨k + 1, by omega, by go_num, ?_, rfl⟩
            intro j hj z hz
            rcases Nat.lt_or_ge j k with h | h
            · exact HN.out j h z hz
            · obtain rfl : j = k := by omega
              have := HY.out
              rw [hz] at this
              cases this
              simpa using HXY.out
          case measure => simp [intOf]; omega
      · go_wp2_with fail
        go_ret
        exact ⟨by rw [idxF_none (fun j hj => HN.out j (by omega))]; rfl, rfl⟩

def hasStr (ss : List ByteArray) (x : ByteArray) : Bool := ss.any fun s => decide (x.toList = s.toList)

theorem containsStr_any (w : World) (ss : List ByteArray) (v : Value) (x : ByteArray) (hv : SlV w v (ss.map strV)) :
    Calls Tryz.prog 38 #[v, .string x] w fun e w' => e = .returned (.bool (hasStr ss x)) ∧ w = w' := by
  have HC := hide (indexStr_any w ss v x hv)
  have HI := hide (idxF_any (fun s : ByteArray => decide (x.toList = s.toList)) ss)
  clear hv
  go_enter Tryz.func38, Tryz.ntmps38
  go_wp2_with fail
  refine HC.out.mono ?_
  rintro e w' ⟨rfl, rfl⟩
  go_wp2_with fail
  go_ret
  exact ⟨by unfold hasStr; rw [← HI.out]; rfl, rfl⟩

set_option maxHeartbeats 400000 in
theorem indexFunc_any (f : FuncId) (lb : Array Value) (hft : ∀ args w, (callFunc f args).run Tryz.prog w = .ok (.enter f args) w) (p : Nd → Bool) (w : World) (ks : List Nd) (v : Value) (hv : SlK w.heap.size w ks v) (hf : FnAt f lb p w ks) :
    Calls Tryz.prog 85 #[v, .func (.func f) #[] lb] w fun e w' => e = .returned (.int .i64 (idxF p ks)) ∧ Bel w w' := by
  rcases hv with ⟨⟨oa, oc, rfl, hoc⟩, rfl⟩ | ⟨b, o, cap, rfl, hc, hm, hr⟩
  · clear hf
    go_enter Tryz.func85, Tryz.ntmps85
    go_wp2_with fail
    refine wp_loop_rounds 1 ?_
    rw [rounds_succ]
    go_wp2_with fail
    go_ret
    exact ⟨rfl, Bel.refl _⟩
  · unfold maxLen at hm
    have H := hide hf; clear hf
    have HR := hide hr; clear hr
    go_enter Tryz.func85, Tryz.ntmps85
    go_wp2_with fail
    go_loopw [8] (fun c wr => RelB p ks w c wr) (fun c _ => ks.length - (intOf c).toNat)
    case atStart => exact ⟨0, Nat.zero_le _, rfl, by omega, Bel.refl _⟩
    case round =>
      obtain ⟨k, hk, rfl, hno, hb⟩ := hrel
      have HN := hide hno; clear hno
      have HB := hide hb; clear hb
      by_cases hlt : k < ks.length
      · obtain ⟨x, hx⟩ : ∃ x, ks[k]? = some x := ⟨ks[k], by simp⟩
        obtain ⟨kv, hbn, c0, c1, c2, hkn⟩ := HR.out.get hx
        have s0 := (HB.out.cell b (o + 3 * k) hbn).trans c0
        have s1 := (HB.out.cell b (o + 3 * k + 1) hbn).trans c1
        have s2 := (HB.out.cell b (o + 3 * k + 2) hbn).trans c2
        have hcal := H.out x (List.mem_of_getElem? hx) kv wr HB.out (hkn.later HB.out)
        have HC := hide hcal; clear hcal
        have HX := hide hx; clear hx
        clear c0 c1 c2
        clear hkn
        rw [Nat.mul_comm] at s0 s1 s2
        unfold nodeV at HC
        cases hp : p x
        · have hp' := hide hp
          rw [hp] at HC
          clear hp
          go_wp2_with fail
          refine HC.out.mono ?_
          rintro e w' ⟨rfl, hb'⟩
          go_wp2_with fail
          go_roundw
          case rel =>
            refine ⟨k + 1, by omega, by go_num, ?_, HB.out.trans hb'⟩
            intro j hj y hy
            rcases Nat.lt_or_ge j k with h | h
            · exact HN.out j h y hy
            · obtain rfl : j = k := by omega
              have := HX.out
              rw [hy] at this
              cases this
              exact hp'.out
          case measure => simp [intOf]; omega
        · have hp' := hide hp
          rw [hp] at HC
          clear hp
          go_wp2_with fail
          refine HC.out.mono ?_
          rintro e w' ⟨rfl, hb'⟩
          go_wp2_with fail
          go_ret
          exact ⟨by rw [idxF_found HX.out hp'.out HN.out]; rfl, HB.out.trans hb'⟩
      · go_wp2_with fail
        go_ret
        exact ⟨by rw [idxF_none (fun j hj => HN.out j (by omega))]; rfl, HB.out⟩

theorem containsFunc_any (f : FuncId) (lb : Array Value) (hft : ∀ args w, (callFunc f args).run Tryz.prog w = .ok (.enter f args) w) (p : Nd → Bool) (w : World) (ks : List Nd) (v : Value) (hv : SlK w.heap.size w ks v) (hf : FnAt f lb p w ks) :
    Calls Tryz.prog 61 #[v, .func (.func f) #[] lb] w fun e w' => e = .returned (.bool (ks.any p)) ∧ Bel w w' := by
  have HC := hide (indexFunc_any f lb hft p w ks v hv hf)
  clear hf
  have HI := hide (idxF_any p ks)
  go_enter Tryz.func61, Tryz.ntmps61
  go_wp2_with fail
  refine HC.out.mono ?_
  rintro e w' ⟨rfl, hb'⟩
  go_wp2_with fail
  go_ret
  exact ⟨by rw [← HI.out]; rfl, hb'⟩

set_option maxHeartbeats 400000 in
theorem every1_at (f : FuncId) (lb : Array Value) (hft : ∀ args w, (callFunc f args).run Tryz.prog w = .ok (.enter f args) w) (p : Nd → Bool) (w0 : World) (ks : List Nd) (B : Nat) (hB : B < w0.heap.size) (hc : w0.cell? ⟨B, 0, none⟩ = some (.func (.func f) #[] lb))
    (hf : FnAt f lb p w0 ks) : FnAt 62 #[.pointer (some ⟨B, 0, none⟩)] (fun n => !p n) w0 ks := by
  intro k hk kv w hs hkv
  have hcw := (hs.cell B 0 hB).trans hc
  have hB' : B < w.heap.size := Nat.lt_of_lt_of_le hB hs.le
  have hb : Bel w (w.alloc (.cells #[.string k.kind, .string k.text, kv] 24)) := (Bel.refl _).alloc _
  have HC := hide (hf k hk kv (w.alloc (.cells #[.string k.kind, .string k.text, kv] 24)) (hs.trans hb) (hkv.later hb))
  have HB := hide hb
  clear hb hs hc hf hkv hk
  unfold nodeV at HC ⊢
  go_enter Tryz.func62, Tryz.ntmps62
  go_wp2_with fail
  refine HC.out.mono ?_
  rintro e w' ⟨rfl, hb'⟩
  go_wp2_with fail
  go_ret
  exact ⟨rfl, HB.out.trans hb'⟩

theorem every_any (f : FuncId) (lb : Array Value) (hft : ∀ args w, (callFunc f args).run Tryz.prog w = .ok (.enter f args) w) (p : Nd → Bool) (w : World) (ks : List Nd) (v : Value) (hv : SlK w.heap.size w ks v) (hf : FnAt f lb p w ks) :
    Calls Tryz.prog 37 #[v, .func (.func f) #[] lb] w fun e w' => e = .returned (.bool (ks.all p)) ∧ Bel w w' := by
  have hb : Bel w (w.alloc (.cells #[.func (.func f) #[] lb] 25)) := (Bel.refl _).alloc _
  have HC := hide (containsFunc_any 62 #[.pointer (some ⟨w.heap.size, 0, none⟩)] (fun _ _ => by kernel_rfl) (fun n => !p n) (w.alloc (.cells #[.func (.func f) #[] lb] 25)) ks v (hv.later hb) (every1_at f lb hft p _ ks w.heap.size (by simp) (by simp) (hf.later hb)))
  have HB := hide hb
  clear hb hf hv
  go_enter Tryz.func37, Tryz.ntmps37
  go_wp2_with fail
  refine HC.out.mono ?_
  rintro e w' ⟨rfl, hb'⟩
  go_wp2_with fail
  go_ret
  exact ⟨by simp [List.all_eq_not_any_not], HB.out.trans hb'⟩

/-- The length of a node's slice of kids. -/
theorem NdK.slice {N : Nat} {w : World} {n : Nd} {v : Value} (h : NdK N w n v) : ∃ a cap, v = .slice a n.kids.length cap ∧ n.kids.length ≤ cap ∧ cap ≤ 9223372036854775807 := by
  rw [NdK_iff] at h
  rcases h with ⟨⟨oa, oc, rfl, hoc⟩, he⟩ | ⟨b, o, cap, rfl, h1, h2, _⟩
  · exact ⟨oa, oc, by rw [he]; rfl, by rw [he]; simp, by unfold maxLen at hoc; exact hoc⟩
  · exact ⟨_, cap, rfl, h1, by unfold maxLen at h2; exact h2⟩

set_option maxHeartbeats 400000 in
theorem missing_any (n : Nd) (kv : Value) (w : World) (hn : NdK w.heap.size w n kv) :
    Calls Tryz.prog 58 #[nodeV n kv] w fun e w' => e = .returned (.bool (miss n)) ∧ Bel w w' := by
  obtain ⟨a, cap, rfl, hcap, hm⟩ := hn.slice
  obtain ⟨k, t, ks⟩ := n
  unfold nodeV
  simp only [Nd.kids_mk, Nd.kind_mk, Nd.text_mk] at hcap ⊢
  clear hn
  have hl : ((ks.length : Int) == 0) = ks.isEmpty := by cases ks <;> simp; omega
  have HL := hide hl; clear hl
  go_enter Tryz.func58, Tryz.ntmps58
  go_wp2_with fail
  all_goals
    go_ret
    refine ⟨?_, (by repeat (first | exact Bel.refl _ | assumption | refine Bel.alloc ?_ _ | refine Bel.drew ?_ | refine Bel.set ?_ (by first | exact Nat.le_refl _ | (simp; done) | (simp; omega)) _))⟩
    simp [miss, *]
    try exact HL.out

theorem CellsAt.new (w : World) (vs : List Value) (t : TypeId) : CellsAt (w.alloc (.cells vs.toArray t)) w.heap.size 0 vs := by
  intro i v hi
  rw [Nat.zero_add, cell_of_row _ w.heap.size i vs.toArray t (0, 0) (heap_alloc_new w _)]
  simpa using hi
/-- A slice that has just been laid by a literal. -/
theorem SlV.new (w : World) (B : Nat) (hB : w.heap.size = B) (vs : List Value) (t : TypeId) (n : Nat) (hn : vs.length = n) (hm : n ≤ maxLen) : SlV (w.alloc (.cells vs.toArray t)) (.slice (some ⟨B, 0, none⟩) n n) vs := by
  subst hB hn
  exact .inr ⟨_, _, _, rfl, Nat.le_refl _, hm, CellsAt.new w vs t⟩

theorem ba_eq {k : ByteArray} {l : List UInt8} (h : k.toList = l) : k = ⟨l.toArray⟩ := by
  subst h
  rcases k with ⟨⟨d⟩⟩
  simp

theorem is_any (w : World) (n : Nd) (kv : Value) (ss : List ByteArray) (v : Value) (hv : SlV w v (ss.map strV)) :
    Calls Tryz.prog 84 #[nodeV n kv, v] w fun e w' => e = .returned (.bool (hasStr ss n.kind)) ∧ Bel w w' := by
  have HC := hide (fun W (h : Bel w W) => containsStr_any W ss v n.kind (hv.later h))
  clear hv
  unfold nodeV
  go_enter Tryz.func84, Tryz.ntmps84
  go_wp2_with fail
  refine (HC.out _ ?_).mono ?_
  · exact (by repeat (first | exact Bel.refl _ | assumption | refine Bel.alloc ?_ _ | refine Bel.drew ?_ | refine Bel.set ?_ (by first | exact Nat.le_refl _ | (simp; done) | (simp; omega)) _))
  rintro e w' ⟨rfl, rfl⟩
  go_wp2_with fail
  go_ret
  exact ⟨rfl, (by repeat (first | exact Bel.refl _ | assumption | refine Bel.alloc ?_ _ | refine Bel.drew ?_ | refine Bel.set ?_ (by first | exact Nat.le_refl _ | (simp; done) | (simp; omega)) _))⟩

def exprKindsB : List ByteArray := [⟨#[110, 97, 109, 101]⟩, ⟨#[108, 105, 116, 101, 114, 97, 108]⟩, ⟨#[112, 97, 114, 101, 110]⟩, ⟨#[117, 110, 97, 114, 121]⟩, ⟨#[98, 105, 110, 97, 114, 121]⟩, ⟨#[115, 101, 108, 101, 99, 116]⟩, ⟨#[105, 110, 100, 101, 120]⟩, ⟨#[99, 97, 108, 108]⟩, ⟨#[97, 115, 115, 101, 114, 116]⟩]
theorem has_exprKinds (k : ByteArray) : hasStr exprKindsB k = decide (k.toList ∈ exprKinds) := by
  rw [Bool.eq_iff_iff]
  simp [hasStr, exprKindsB, exprKinds, ByteArray.toList_mk]

theorem isExpr_any (w : World) (n : Nd) (kv : Value) :
    Calls Tryz.prog 59 #[nodeV n kv] w fun e w' => e = .returned (.bool (decide (n.kd ∈ exprKinds))) ∧ Bel w w' := by
  have HC := hide (fun W v h => is_any W n kv exprKindsB v h)
  have HE := hide (has_exprKinds n.kind)
  unfold nodeV at HC ⊢
  go_enter Tryz.func59, Tryz.ntmps59
  go_wp2_with fail
  refine (HC.out _ _ ?_).mono ?_
  · exact SlV.new (w.alloc _) _ (by simp) _ _ _ rfl (by decide)
  rintro e w' ⟨rfl, hb⟩
  go_wp2_with fail
  go_ret
  exact ⟨by rw [HE.out]; rfl, Bel.trans ((by repeat (first | exact Bel.refl _ | assumption | refine Bel.alloc ?_ _ | refine Bel.drew ?_ | refine Bel.set ?_ (by first | exact Nat.le_refl _ | (simp; done) | (simp; omega)) _))) hb⟩
end Go.Proofs.YtkkgfgllfbahlaaGreatFmt
