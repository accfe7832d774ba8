/- The conversions answer at every good node (printed by gen_ca.py).
impl.kindOf tells a node's kind. -/
import Derived.Test.YtkkgfgllfbahlaaGreatFmtCvE
import Derived.Test.YtkkgfgllfbahlaaGreatFmtCvF
import Derived.Test.YtkkgfgllfbahlaaGreatFmtCvH
import Derived.Test.YtkkgfgllfbahlaaGreatFmtCvS
import Derived.Test.YtkkgfgllfbahlaaGreatFmtCvT
import Derived.Test.YtkkgfgllfbahlaaGreatFmtCvR
import Derived.Test.YtkkgfgllfbahlaaGreatFmtXt
import Derived.Stop.Asserts
set_option linter.unusedVariables false
set_option linter.unusedSimpArgs false
namespace Go.Proofs.YtkkgfgllfbahlaaGreatFmt
open Go Go.RowKit
set_option linter.unusedSimpArgs false

theorem goodO_of {st : Bool} {o : Option Ast} (h : goodO st o = true) : ∀ a, o = some a → a.isStmt = st ∧ a.good = true := by
  rintro a rfl
  simpa [goodO] using h
theorem sizeXs_mem : ∀ {l : List XT} {x : XT}, x ∈ l → x.size ≤ sizeXs l
  | [], _, h => by simp at h
  | y :: l, x, h => by
    rw [sizeXs]
    rcases List.mem_cons.1 h with rfl | h
    · omega
    · have := sizeXs_mem h; omega
theorem kid_xt {a k : Ast} (h : k ∈ a.kids) : k.xt.size < a.xt.size := by
  rw [a.xt_eq, XT.size]
  have := sizeXs_mem (List.mem_map_of_mem (f := Ast.xt) h)
  omega
theorem xt_pos (a : Ast) : 0 < a.xt.size := by rw [a.xt_eq, XT.size]; omega
theorem kid_good {a k : Ast} (hg : a.good = true) (h : k ∈ a.kids) : k.good = true := by
  cases a <;> simp only [Ast.kids, List.mem_append, List.mem_singleton, List.not_mem_nil, Option.mem_toList] at h <;> simp only [Ast.good, Bool.and_eq_true, decide_eq_true_eq] at hg
  case paren l x r =>
    subst h; simp [hg]
  case unary p t x =>
    subst h; simp [hg]
  case binary x p t y =>
    rcases h with h | h
    · subst h
      simp [hg]
    · subst h
      simp [hg]
  case sel x y =>
    rcases h with h | h
    · subst h
      simp [hg]
    · subst h
      simp [hg]
  case index x l y r =>
    rcases h with h | h
    · subst h
      simp [hg]
    · subst h
      simp [hg]
  case call x l a e r =>
    rcases h with h | h
    · subst h
      simp [hg]
    · exact (goodL_mem (st := false) (l := a) (by simp [hg]) k h).2
  case asrt x l y r =>
    rcases h with h | h
    · subst h
      simp [hg]
    · exact (goodO_of (st := false) (o := y) (by simp [hg]) k h).2
  case exprS x =>
    subst h; simp [hg]
  case send x p y =>
    rcases h with h | h
    · subst h
      simp [hg]
    · subst h
      simp [hg]
  case step x p t =>
    subst h; simp [hg]
  case assign a p t b =>
    rcases h with h | h
    · exact (goodL_mem (st := false) (l := a) (by simp [hg]) k h).2
    · exact (goodL_mem (st := false) (l := b) (by simp [hg]) k h).2
  case goS p x =>
    subst h; simp [hg]
  case deferS p x =>
    subst h; simp [hg]
  case ret p a =>
    exact (goodL_mem (st := false) (l := a) (by simp [hg]) k h).2
  case branch p t x =>
    exact (goodO_of (st := false) (o := x) (by simp [hg]) k h).2
  case label x c y =>
    rcases h with h | h
    · subst h
      simp [hg]
    · subst h
      simp [hg]
  case block l a r =>
    exact (goodL_mem (st := true) (l := a) (by simp [hg]) k h).2
  case ifS p x y z u =>
    rcases h with ((h | h) | h) | h
    · exact (goodO_of (st := true) (o := x) (by simp [hg]) k h).2
    · subst h
      simp [hg]
    · subst h
      simp [hg]
    · exact (goodO_of (st := true) (o := u) (by simp [hg]) k h).2
  case caseC p a c b =>
    rcases h with h | h
    · exact (goodL_mem (st := false) (l := a) (by simp [hg]) k h).2
    · exact (goodL_mem (st := true) (l := b) (by simp [hg]) k h).2
  case switchS p x y z =>
    rcases h with (h | h) | h
    · exact (goodO_of (st := true) (o := x) (by simp [hg]) k h).2
    · exact (goodO_of (st := false) (o := y) (by simp [hg]) k h).2
    · subst h
      simp [hg]
  case typesS p x y z =>
    rcases h with (h | h) | h
    · exact (goodO_of (st := true) (o := x) (by simp [hg]) k h).2
    · subst h
      simp [hg]
    · subst h
      simp [hg]
  case commC p x c b =>
    rcases h with h | h
    · exact (goodO_of (st := true) (o := x) (by simp [hg]) k h).2
    · exact (goodL_mem (st := true) (l := b) (by simp [hg]) k h).2
  case selectS p z =>
    subst h; simp [hg]
  case forS p x y z u =>
    rcases h with ((h | h) | h) | h
    · exact (goodO_of (st := true) (o := x) (by simp [hg]) k h).2
    · exact (goodO_of (st := false) (o := y) (by simp [hg]) k h).2
    · exact (goodO_of (st := true) (o := z) (by simp [hg]) k h).2
    · subst h
      simp [hg]
  case rangeS p x y q t r z u =>
    rcases h with ((h | h) | h) | h
    · exact (goodO_of (st := false) (o := x) (by simp [hg]) k h).2
    · exact (goodO_of (st := false) (o := y) (by simp [hg]) k h).2
    · subst h
      simp [hg]
    · subst h
      simp [hg]

theorem CvB.of {a : Ast} (h : ∀ l b r, a = .block l b r → CvB a) : CvB a := by
  intro S q w ha
  obtain ⟨l, b, r, e⟩ := ha.block
  exact h l b r e S q w ha
theorem cv_all : ∀ (m : Nat) (a : Ast), a.xt.size ≤ m → a.good = true → (a.isStmt = false → CvE a) ∧ (a.isStmt = true → CvS a ∧ CvB a) := by
  intro m
  induction m with
  | zero => intro a hm; have := xt_pos a; omega
  | succ m ih =>
    intro a hm hg
    have hq : ∀ k, k ∈ a.kids → (k.isStmt = false → CvE k) ∧ (k.isStmt = true → CvS k ∧ CvB k) := fun k hk => ih k (by have := kid_xt hk; omega) (kid_good hg hk)
    have hE : ∀ k, k ∈ a.kids → k.isStmt = false → CvE k := fun k hk => (hq k hk).1
    have hS : ∀ k, k ∈ a.kids → k.isStmt = true → CvS k := fun k hk h => ((hq k hk).2 h).1
    have hB : ∀ k, k ∈ a.kids → k.isStmt = true → CvB k := fun k hk h => ((hq k hk).2 h).2
    clear hq ih
    cases a <;> simp only [Ast.good, Bool.and_eq_true, decide_eq_true_eq, beq_iff_eq] at hg
    case ident p s => exact ⟨fun _ => cv_ident p s , fun h => by simp at h⟩
    case lit p e k s => exact ⟨fun _ => cv_lit p e k s , fun h => by simp at h⟩
    case paren l x r => exact ⟨fun _ => cv_paren l x r (hE x (by simp [Ast.kids]) (by simp [hg])), fun h => by simp at h⟩
    case unary p t x => exact ⟨fun _ => cv_unary p t x (by simp [hg]) (hE x (by simp [Ast.kids]) (by simp [hg])), fun h => by simp at h⟩
    case binary x p t y => exact ⟨fun _ => cv_binary x p t y (by simp [hg]) (hE x (by simp [Ast.kids]) (by simp [hg])) (hE y (by simp [Ast.kids]) (by simp [hg])), fun h => by simp at h⟩
    case sel x y => exact ⟨fun _ => cv_sel x y (hE x (by simp [Ast.kids]) (by simp [hg])), fun h => by simp at h⟩
    case index x l y r => exact ⟨fun _ => cv_index x l y r (hE x (by simp [Ast.kids]) (by simp [hg])) (hE y (by simp [Ast.kids]) (by simp [hg])), fun h => by simp at h⟩
    case call x l a e r => exact ⟨fun _ => cv_call x l a e r (hE x (by simp [Ast.kids]) (by simp [hg])) (fun k hk => hE k (by simp [Ast.kids, hk]) (goodL_mem (st := false) (l := a) (by simp [hg]) k hk).1) (by simp [hg]), fun h => by simp at h⟩
    case asrt x l y r => exact ⟨fun _ => cv_asrt x l y r (hE x (by simp [Ast.kids]) (by simp [hg])) (fun k hk => hE k (by simp [Ast.kids, hk]) (goodO_of (st := false) (o := y) (by simp [hg]) k hk).1), fun h => by simp at h⟩
    case exprS x => exact ⟨fun h => by simp at h, fun _ => ⟨cv_exprS x (hE x (by simp [Ast.kids]) (by simp [hg])), CvB.of fun l b r e => by simp at e⟩⟩
    case send x p y => exact ⟨fun h => by simp at h, fun _ => ⟨cv_send x p y (hE x (by simp [Ast.kids]) (by simp [hg])) (hE y (by simp [Ast.kids]) (by simp [hg])), CvB.of fun l b r e => by simp at e⟩⟩
    case step x p t => exact ⟨fun h => by simp at h, fun _ => ⟨cv_step x p t (by simp [hg]) (hE x (by simp [Ast.kids]) (by simp [hg])), CvB.of fun l b r e => by simp at e⟩⟩
    case assign a p t b => exact ⟨fun h => by simp at h, fun _ => ⟨cv_assign a p t b (by simp [hg]) (fun k hk => hE k (by simp [Ast.kids, hk]) (goodL_mem (st := false) (l := a) (by simp [hg]) k hk).1) (by simp [hg]) (fun k hk => hE k (by simp [Ast.kids, hk]) (goodL_mem (st := false) (l := b) (by simp [hg]) k hk).1) (by simp [hg]), CvB.of fun l b r e => by simp at e⟩⟩
    case goS p x => exact ⟨fun h => by simp at h, fun _ => ⟨cv_goS p x (hE x (by simp [Ast.kids]) (by simp [hg])), CvB.of fun l b r e => by simp at e⟩⟩
    case deferS p x => exact ⟨fun h => by simp at h, fun _ => ⟨cv_deferS p x (hE x (by simp [Ast.kids]) (by simp [hg])), CvB.of fun l b r e => by simp at e⟩⟩
    case ret p a => exact ⟨fun h => by simp at h, fun _ => ⟨cv_ret p a (fun k hk => hE k (by simp [Ast.kids, hk]) (goodL_mem (st := false) (l := a) (by simp [hg]) k hk).1) (by simp [hg]), CvB.of fun l b r e => by simp at e⟩⟩
    case branch p t x =>
      refine ⟨fun h => by simp at h, fun _ => ⟨?_, CvB.of fun l b r e => by simp at e⟩⟩
      cases x with
      | none => exact cv_branch0 p t (by simp [hg])
      | some x => exact cv_branch1 p t x (by simp [hg]) (hE x (by simp [Ast.kids]) (goodO_of (st := false) (o := some x) (by simp [hg]) x rfl).1)
    case label x c y => exact ⟨fun h => by simp at h, fun _ => ⟨cv_label x c y (hS y (by simp [Ast.kids]) (by simp [hg])), CvB.of fun l b r e => by simp at e⟩⟩
    case block l a r => exact ⟨fun h => by simp at h, fun _ => ⟨cv_block l a r (fun k hk => hS k (by simp [Ast.kids, hk]) (goodL_mem (st := true) (l := a) (by simp [hg]) k hk).1) (by simp [hg]), block_any (fun k hk => hS k (by simp [Ast.kids, hk]) (goodL_mem (st := true) (l := a) (by simp [hg]) k hk).1) (by simp [hg])⟩⟩
    case ifS p x y z u => exact ⟨fun h => by simp at h, fun _ => ⟨cv_ifS p x y z u (fun k hk => hS k (by simp [Ast.kids, hk]) (goodO_of (st := true) (o := x) (by simp [hg]) k hk).1) (hE y (by simp [Ast.kids]) (by simp [hg])) (hB z (by simp [Ast.kids]) (by simp [hg])) (fun k hk => hS k (by simp [Ast.kids, hk]) (goodO_of (st := true) (o := u) (by simp [hg]) k hk).1), CvB.of fun l b r e => by simp at e⟩⟩
    case caseC p a c b => exact ⟨fun h => by simp at h, fun _ => ⟨cv_caseC p a c b (fun k hk => hE k (by simp [Ast.kids, hk]) (goodL_mem (st := false) (l := a) (by simp [hg]) k hk).1) (by simp [hg]) (fun k hk => hS k (by simp [Ast.kids, hk]) (goodL_mem (st := true) (l := b) (by simp [hg]) k hk).1) (by simp [hg]), CvB.of fun l b r e => by simp at e⟩⟩
    case switchS p x y z => exact ⟨fun h => by simp at h, fun _ => ⟨cv_switchS p x y z (fun k hk => hS k (by simp [Ast.kids, hk]) (goodO_of (st := true) (o := x) (by simp [hg]) k hk).1) (fun k hk => hE k (by simp [Ast.kids, hk]) (goodO_of (st := false) (o := y) (by simp [hg]) k hk).1) (hB z (by simp [Ast.kids]) (by simp [hg])), CvB.of fun l b r e => by simp at e⟩⟩
    case typesS p x y z => exact ⟨fun h => by simp at h, fun _ => ⟨cv_typesS p x y z (fun k hk => hS k (by simp [Ast.kids, hk]) (goodO_of (st := true) (o := x) (by simp [hg]) k hk).1) (hS y (by simp [Ast.kids]) (by simp [hg])) (hB z (by simp [Ast.kids]) (by simp [hg])), CvB.of fun l b r e => by simp at e⟩⟩
    case commC p x c b => exact ⟨fun h => by simp at h, fun _ => ⟨cv_commC p x c b (fun k hk => hS k (by simp [Ast.kids, hk]) (goodO_of (st := true) (o := x) (by simp [hg]) k hk).1) (fun k hk => hS k (by simp [Ast.kids, hk]) (goodL_mem (st := true) (l := b) (by simp [hg]) k hk).1) (by simp [hg]), CvB.of fun l b r e => by simp at e⟩⟩
    case selectS p z => exact ⟨fun h => by simp at h, fun _ => ⟨cv_selectS p z (hB z (by simp [Ast.kids]) (by simp [hg])), CvB.of fun l b r e => by simp at e⟩⟩
    case forS p x y z u => exact ⟨fun h => by simp at h, fun _ => ⟨cv_forS p x y z u (fun k hk => hS k (by simp [Ast.kids, hk]) (goodO_of (st := true) (o := x) (by simp [hg]) k hk).1) (fun k hk => hE k (by simp [Ast.kids, hk]) (goodO_of (st := false) (o := y) (by simp [hg]) k hk).1) (fun k hk => hS k (by simp [Ast.kids, hk]) (goodO_of (st := true) (o := z) (by simp [hg]) k hk).1) (hB u (by simp [Ast.kids]) (by simp [hg])), CvB.of fun l b r e => by simp at e⟩⟩
    case rangeS p x y q t r z u =>
      refine ⟨fun h => by simp at h, fun _ => ⟨?_, CvB.of fun l b r e => by simp at e⟩⟩
      cases x with
      | none => exact cv_range0 p y q t r z u (fun k hk => hE k (by simp [Ast.kids, hk]) (goodO_of (st := false) (o := y) (by simp [hg]) k hk).1) (hE z (by simp [Ast.kids]) (by simp [hg])) (hB u (by simp [Ast.kids]) (by simp [hg]))
      | some x => exact cv_range1 p x y q t r z u (by simp [hg]) (hE x (by simp [Ast.kids]) (goodO_of (st := false) (o := some x) (by simp [hg]) x rfl).1) (fun k hk => hE k (by simp [Ast.kids, hk]) (goodO_of (st := false) (o := y) (by simp [hg]) k hk).1) (hE z (by simp [Ast.kids]) (by simp [hg])) (hB u (by simp [Ast.kids]) (by simp [hg]))

theorem cvE_ok {a : Ast} (hg : a.good = true) (h : a.isStmt = false) : CvE a := (cv_all a.xt.size a (Nat.le_refl _) hg).1 h
theorem cvS_ok {a : Ast} (hg : a.good = true) (h : a.isStmt = true) : CvS a := ((cv_all a.xt.size a (Nat.le_refl _) hg).2 h).1
end Go.Proofs.YtkkgfgllfbahlaaGreatFmt

namespace Go.Proofs.YtkkgfgllfbahlaaGreatFmt
open Go Go.RowKit
set_option linter.unusedSimpArgs false

theorem isS_ExprStmt (v : Value) (X : Nat) (w : World) : (Instr.typeAssert (.iface 168 v) X 49 true).run Tryz.prog w = .ok (.tuple #[.iface 168 v, .bool true]) w := run_typeAssert_hasB Tryz.underlying49 (by kernel_rfl) v X w
theorem isS_SendStmt (v : Value) (X : Nat) (w : World) : (Instr.typeAssert (.iface 171 v) X 49 true).run Tryz.prog w = .ok (.tuple #[.iface 171 v, .bool true]) w := run_typeAssert_hasB Tryz.underlying49 (by kernel_rfl) v X w
theorem isS_IncDecStmt (v : Value) (X : Nat) (w : World) : (Instr.typeAssert (.iface 174 v) X 49 true).run Tryz.prog w = .ok (.tuple #[.iface 174 v, .bool true]) w := run_typeAssert_hasB Tryz.underlying49 (by kernel_rfl) v X w
theorem isS_AssignStmt (v : Value) (X : Nat) (w : World) : (Instr.typeAssert (.iface 177 v) X 49 true).run Tryz.prog w = .ok (.tuple #[.iface 177 v, .bool true]) w := run_typeAssert_hasB Tryz.underlying49 (by kernel_rfl) v X w
theorem isS_GoStmt (v : Value) (X : Nat) (w : World) : (Instr.typeAssert (.iface 180 v) X 49 true).run Tryz.prog w = .ok (.tuple #[.iface 180 v, .bool true]) w := run_typeAssert_hasB Tryz.underlying49 (by kernel_rfl) v X w
theorem isS_DeferStmt (v : Value) (X : Nat) (w : World) : (Instr.typeAssert (.iface 183 v) X 49 true).run Tryz.prog w = .ok (.tuple #[.iface 183 v, .bool true]) w := run_typeAssert_hasB Tryz.underlying49 (by kernel_rfl) v X w
theorem isS_ReturnStmt (v : Value) (X : Nat) (w : World) : (Instr.typeAssert (.iface 186 v) X 49 true).run Tryz.prog w = .ok (.tuple #[.iface 186 v, .bool true]) w := run_typeAssert_hasB Tryz.underlying49 (by kernel_rfl) v X w
theorem isS_BranchStmt (v : Value) (X : Nat) (w : World) : (Instr.typeAssert (.iface 189 v) X 49 true).run Tryz.prog w = .ok (.tuple #[.iface 189 v, .bool true]) w := run_typeAssert_hasB Tryz.underlying49 (by kernel_rfl) v X w
theorem isS_LabeledStmt (v : Value) (X : Nat) (w : World) : (Instr.typeAssert (.iface 165 v) X 49 true).run Tryz.prog w = .ok (.tuple #[.iface 165 v, .bool true]) w := run_typeAssert_hasB Tryz.underlying49 (by kernel_rfl) v X w
theorem isS_BlockStmt (v : Value) (X : Nat) (w : World) : (Instr.typeAssert (.iface 98 v) X 49 true).run Tryz.prog w = .ok (.tuple #[.iface 98 v, .bool true]) w := run_typeAssert_hasB Tryz.underlying49 (by kernel_rfl) v X w
theorem isS_IfStmt (v : Value) (X : Nat) (w : World) : (Instr.typeAssert (.iface 196 v) X 49 true).run Tryz.prog w = .ok (.tuple #[.iface 196 v, .bool true]) w := run_typeAssert_hasB Tryz.underlying49 (by kernel_rfl) v X w
theorem isS_CaseClause (v : Value) (X : Nat) (w : World) : (Instr.typeAssert (.iface 199 v) X 49 true).run Tryz.prog w = .ok (.tuple #[.iface 199 v, .bool true]) w := run_typeAssert_hasB Tryz.underlying49 (by kernel_rfl) v X w
theorem isS_SwitchStmt (v : Value) (X : Nat) (w : World) : (Instr.typeAssert (.iface 202 v) X 49 true).run Tryz.prog w = .ok (.tuple #[.iface 202 v, .bool true]) w := run_typeAssert_hasB Tryz.underlying49 (by kernel_rfl) v X w
theorem isS_TypeSwitchStmt (v : Value) (X : Nat) (w : World) : (Instr.typeAssert (.iface 205 v) X 49 true).run Tryz.prog w = .ok (.tuple #[.iface 205 v, .bool true]) w := run_typeAssert_hasB Tryz.underlying49 (by kernel_rfl) v X w
theorem isS_CommClause (v : Value) (X : Nat) (w : World) : (Instr.typeAssert (.iface 208 v) X 49 true).run Tryz.prog w = .ok (.tuple #[.iface 208 v, .bool true]) w := run_typeAssert_hasB Tryz.underlying49 (by kernel_rfl) v X w
theorem isS_SelectStmt (v : Value) (X : Nat) (w : World) : (Instr.typeAssert (.iface 211 v) X 49 true).run Tryz.prog w = .ok (.tuple #[.iface 211 v, .bool true]) w := run_typeAssert_hasB Tryz.underlying49 (by kernel_rfl) v X w
theorem isS_ForStmt (v : Value) (X : Nat) (w : World) : (Instr.typeAssert (.iface 214 v) X 49 true).run Tryz.prog w = .ok (.tuple #[.iface 214 v, .bool true]) w := run_typeAssert_hasB Tryz.underlying49 (by kernel_rfl) v X w
theorem isS_RangeStmt (v : Value) (X : Nat) (w : World) : (Instr.typeAssert (.iface 217 v) X 49 true).run Tryz.prog w = .ok (.tuple #[.iface 217 v, .bool true]) w := run_typeAssert_hasB Tryz.underlying49 (by kernel_rfl) v X w
theorem noS_Ident (v : Value) (X : Nat) (w : World) : (Instr.typeAssert (.iface 85 v) X 49 true).run Tryz.prog w = .ok (.tuple #[.nilIface, .bool false]) w := run_typeAssert_lacksB Tryz.underlying49 (by kernel_rfl) (by kernel_rfl) v X w
theorem isE_Ident (v : Value) (X : Nat) (w : World) : (Instr.typeAssert (.iface 85 v) X 80 true).run Tryz.prog w = .ok (.tuple #[.iface 85 v, .bool true]) w := run_typeAssert_hasB Tryz.underlying80 (by kernel_rfl) v X w
theorem noS_BasicLit (v : Value) (X : Nat) (w : World) : (Instr.typeAssert (.iface 81 v) X 49 true).run Tryz.prog w = .ok (.tuple #[.nilIface, .bool false]) w := run_typeAssert_lacksB Tryz.underlying49 (by kernel_rfl) (by kernel_rfl) v X w
theorem isE_BasicLit (v : Value) (X : Nat) (w : World) : (Instr.typeAssert (.iface 81 v) X 80 true).run Tryz.prog w = .ok (.tuple #[.iface 81 v, .bool true]) w := run_typeAssert_hasB Tryz.underlying80 (by kernel_rfl) v X w
theorem noS_ParenExpr (v : Value) (X : Nat) (w : World) : (Instr.typeAssert (.iface 106 v) X 49 true).run Tryz.prog w = .ok (.tuple #[.nilIface, .bool false]) w := run_typeAssert_lacksB Tryz.underlying49 (by kernel_rfl) (by kernel_rfl) v X w
theorem isE_ParenExpr (v : Value) (X : Nat) (w : World) : (Instr.typeAssert (.iface 106 v) X 80 true).run Tryz.prog w = .ok (.tuple #[.iface 106 v, .bool true]) w := run_typeAssert_hasB Tryz.underlying80 (by kernel_rfl) v X w
theorem noS_UnaryExpr (v : Value) (X : Nat) (w : World) : (Instr.typeAssert (.iface 130 v) X 49 true).run Tryz.prog w = .ok (.tuple #[.nilIface, .bool false]) w := run_typeAssert_lacksB Tryz.underlying49 (by kernel_rfl) (by kernel_rfl) v X w
theorem isE_UnaryExpr (v : Value) (X : Nat) (w : World) : (Instr.typeAssert (.iface 130 v) X 80 true).run Tryz.prog w = .ok (.tuple #[.iface 130 v, .bool true]) w := run_typeAssert_hasB Tryz.underlying80 (by kernel_rfl) v X w
theorem noS_BinaryExpr (v : Value) (X : Nat) (w : World) : (Instr.typeAssert (.iface 134 v) X 49 true).run Tryz.prog w = .ok (.tuple #[.nilIface, .bool false]) w := run_typeAssert_lacksB Tryz.underlying49 (by kernel_rfl) (by kernel_rfl) v X w
theorem isE_BinaryExpr (v : Value) (X : Nat) (w : World) : (Instr.typeAssert (.iface 134 v) X 80 true).run Tryz.prog w = .ok (.tuple #[.iface 134 v, .bool true]) w := run_typeAssert_hasB Tryz.underlying80 (by kernel_rfl) v X w
theorem noS_SelectorExpr (v : Value) (X : Nat) (w : World) : (Instr.typeAssert (.iface 109 v) X 49 true).run Tryz.prog w = .ok (.tuple #[.nilIface, .bool false]) w := run_typeAssert_lacksB Tryz.underlying49 (by kernel_rfl) (by kernel_rfl) v X w
theorem isE_SelectorExpr (v : Value) (X : Nat) (w : World) : (Instr.typeAssert (.iface 109 v) X 80 true).run Tryz.prog w = .ok (.tuple #[.iface 109 v, .bool true]) w := run_typeAssert_hasB Tryz.underlying80 (by kernel_rfl) v X w
theorem noS_IndexExpr (v : Value) (X : Nat) (w : World) : (Instr.typeAssert (.iface 112 v) X 49 true).run Tryz.prog w = .ok (.tuple #[.nilIface, .bool false]) w := run_typeAssert_lacksB Tryz.underlying49 (by kernel_rfl) (by kernel_rfl) v X w
theorem isE_IndexExpr (v : Value) (X : Nat) (w : World) : (Instr.typeAssert (.iface 112 v) X 80 true).run Tryz.prog w = .ok (.tuple #[.iface 112 v, .bool true]) w := run_typeAssert_hasB Tryz.underlying80 (by kernel_rfl) v X w
theorem noS_CallExpr (v : Value) (X : Nat) (w : World) : (Instr.typeAssert (.iface 124 v) X 49 true).run Tryz.prog w = .ok (.tuple #[.nilIface, .bool false]) w := run_typeAssert_lacksB Tryz.underlying49 (by kernel_rfl) (by kernel_rfl) v X w
theorem isE_CallExpr (v : Value) (X : Nat) (w : World) : (Instr.typeAssert (.iface 124 v) X 80 true).run Tryz.prog w = .ok (.tuple #[.iface 124 v, .bool true]) w := run_typeAssert_hasB Tryz.underlying80 (by kernel_rfl) v X w
theorem noS_TypeAssertExpr (v : Value) (X : Nat) (w : World) : (Instr.typeAssert (.iface 121 v) X 49 true).run Tryz.prog w = .ok (.tuple #[.nilIface, .bool false]) w := run_typeAssert_lacksB Tryz.underlying49 (by kernel_rfl) (by kernel_rfl) v X w
theorem isE_TypeAssertExpr (v : Value) (X : Nat) (w : World) : (Instr.typeAssert (.iface 121 v) X 80 true).run Tryz.prog w = .ok (.tuple #[.iface 121 v, .bool true]) w := run_typeAssert_hasB Tryz.underlying80 (by kernel_rfl) v X w
theorem isS_any (a : Ast) (h : a.isStmt = true) (v : Value) (X : Nat) (w : World) : (Instr.typeAssert (.iface a.ptype v) X 49 true).run Tryz.prog w = .ok (.tuple #[.iface a.ptype v, .bool true]) w := by
  cases a <;> simp at h
  case exprS => exact isS_ExprStmt v X w
  case send => exact isS_SendStmt v X w
  case step => exact isS_IncDecStmt v X w
  case assign => exact isS_AssignStmt v X w
  case goS => exact isS_GoStmt v X w
  case deferS => exact isS_DeferStmt v X w
  case ret => exact isS_ReturnStmt v X w
  case branch => exact isS_BranchStmt v X w
  case label => exact isS_LabeledStmt v X w
  case block => exact isS_BlockStmt v X w
  case ifS => exact isS_IfStmt v X w
  case caseC => exact isS_CaseClause v X w
  case switchS => exact isS_SwitchStmt v X w
  case typesS => exact isS_TypeSwitchStmt v X w
  case commC => exact isS_CommClause v X w
  case selectS => exact isS_SelectStmt v X w
  case forS => exact isS_ForStmt v X w
  case rangeS => exact isS_RangeStmt v X w
theorem noS_any (a : Ast) (h : a.isStmt = false) (v : Value) (X : Nat) (w : World) : (Instr.typeAssert (.iface a.ptype v) X 49 true).run Tryz.prog w = .ok (.tuple #[.nilIface, .bool false]) w := by
  cases a <;> simp at h
  case ident => exact noS_Ident v X w
  case lit => exact noS_BasicLit v X w
  case paren => exact noS_ParenExpr v X w
  case unary => exact noS_UnaryExpr v X w
  case binary => exact noS_BinaryExpr v X w
  case sel => exact noS_SelectorExpr v X w
  case index => exact noS_IndexExpr v X w
  case call => exact noS_CallExpr v X w
  case asrt => exact noS_TypeAssertExpr v X w
theorem isE_any (a : Ast) (h : a.isStmt = false) (v : Value) (X : Nat) (w : World) : (Instr.typeAssert (.iface a.ptype v) X 80 true).run Tryz.prog w = .ok (.tuple #[.iface a.ptype v, .bool true]) w := by
  cases a <;> simp at h
  case ident => exact isE_Ident v X w
  case lit => exact isE_BasicLit v X w
  case paren => exact isE_ParenExpr v X w
  case unary => exact isE_UnaryExpr v X w
  case binary => exact isE_BinaryExpr v X w
  case sel => exact isE_SelectorExpr v X w
  case index => exact isE_IndexExpr v X w
  case call => exact isE_CallExpr v X w
  case asrt => exact isE_TypeAssertExpr v X w
theorem field_kind' (k t : ByteArray) (a : Option Addr) (n c : Nat) (W : World) : Sem.run Tryz.prog (Instr.field 24 (.agg #[.string k, .string t, .slice a n c]) 0) W = .ok (.string k) W := by
  kernel_rfl
theorem kindOf_any (a : Ast) (hg : a.good = true) {S : Nat → Prop} {v : Value} {w : World} (ha : At S w a v) (hS : ∀ k, S k → k < w.heap.size) (hk : TokTab w) (h0 : 0 < w.heap.size) :
    Calls Tryz.prog 30 #[v] w fun e w' => e = .returned (.string a.kind) ∧ Bel w w' := by
  have hf := field_kind'
  cases hs : a.isStmt
  · have HX := hide ((cvE_ok hg hs).at ha hS hk h0)
    obtain ⟨p, rfl, hp⟩ := ha.ptr
    have h1 := fun W => noS_any a hs (.pointer (some ⟨p, 0, none⟩)) 54 W
    have h2 := fun W => isE_any a hs (.pointer (some ⟨p, 0, none⟩)) 54 W
    clear ha
    go_enter Tryz.func30, Tryz.ntmps30
    go_wp2_with fail
    with_reducible refine Calls.mono (HX.out _ (Bel.refl _)) ?_
    rintro e w1 ⟨t1, b1, n1, m1, rfl, hT1⟩
    go_wp2_with fail
    go_ret
    exact ⟨rfl, hT1⟩
  · have HX := hide ((cvS_ok hg hs).at ha hS hk h0)
    obtain ⟨p, rfl, hp⟩ := ha.ptr
    have h1 := fun W => isS_any a hs (.pointer (some ⟨p, 0, none⟩)) 54 W
    clear ha
    go_enter Tryz.func30, Tryz.ntmps30
    go_wp2_with fail
    with_reducible refine Calls.mono (HX.out _ (Bel.refl _)) ?_
    rintro e w1 ⟨t1, b1, n1, m1, rfl, hT1⟩
    go_wp2_with fail
    go_ret
    exact ⟨rfl, hT1⟩
theorem kindOf_nil (w : World) : Calls Tryz.prog 30 #[.nilIface] w fun e w' => e = .returned (.string ⟨#[]⟩) ∧ w = w' := by
  have h1 : ∀ W, Sem.run Tryz.prog (Instr.typeAssert .nilIface 54 49 true) W = .ok (.tuple #[.nilIface, .bool false]) W := fun W => by kernel_rfl
  have h2 : ∀ W, Sem.run Tryz.prog (Instr.typeAssert .nilIface 54 80 true) W = .ok (.tuple #[.nilIface, .bool false]) W := fun W => by kernel_rfl
  go_enter Tryz.func30, Tryz.ntmps30
  go_wp2_with fail
  go_ret
  exact ⟨rfl, rfl⟩
end Go.Proofs.YtkkgfgllfbahlaaGreatFmt
