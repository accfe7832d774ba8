/- go/ast nodes as plain data, how they lie in memory, their kinds and children (printed by gen_ast.py).
What the builder builds, as plain functions on trees and lists of places; its nodes' structure is that of the tree (xtN). -/
import Derived.Test.YtkkgfgllfbahlaaGreatFmtTree
import Derived.Test.YtkkgfgllfbahlaaGreatFmtBut
set_option linter.unusedVariables false
set_option linter.unusedSimpArgs false
namespace Go.Proofs.YtkkgfgllfbahlaaGreatFmt
open Go Go.RowKit

inductive Ast where
  | ident (p : Int) (s : ByteArray)
  | lit (p : Int) (e : Int) (k : Int) (s : ByteArray)
  | paren (l : Int) (x : Ast) (r : Int)
  | unary (p : Int) (t : Int) (x : Ast)
  | binary (x : Ast) (p : Int) (t : Int) (y : Ast)
  | sel (x : Ast) (y : Ast)
  | index (x : Ast) (l : Int) (y : Ast) (r : Int)
  | call (x : Ast) (l : Int) (a : List Ast) (e : Int) (r : Int)
  | asrt (x : Ast) (l : Int) (y : Option Ast) (r : Int)
  | exprS (x : Ast)
  | send (x : Ast) (p : Int) (y : Ast)
  | step (x : Ast) (p : Int) (t : Int)
  | assign (a : List Ast) (p : Int) (t : Int) (b : List Ast)
  | goS (p : Int) (x : Ast)
  | deferS (p : Int) (x : Ast)
  | ret (p : Int) (a : List Ast)
  | branch (p : Int) (t : Int) (x : Option Ast)
  | label (x : Ast) (c : Int) (y : Ast)
  | block (l : Int) (a : List Ast) (r : Int)
  | ifS (p : Int) (x : Option Ast) (y : Ast) (z : Ast) (u : Option Ast)
  | caseC (p : Int) (a : List Ast) (c : Int) (b : List Ast)
  | switchS (p : Int) (x : Option Ast) (y : Option Ast) (z : Ast)
  | typesS (p : Int) (x : Option Ast) (y : Ast) (z : Ast)
  | commC (p : Int) (x : Option Ast) (c : Int) (b : List Ast)
  | selectS (p : Int) (z : Ast)
  | forS (p : Int) (x : Option Ast) (y : Option Ast) (z : Option Ast) (u : Ast)
  | rangeS (p : Int) (x : Option Ast) (y : Option Ast) (q : Int) (t : Int) (r : Int) (z : Ast) (u : Ast)

/-- A node with those below it, in the order of ast.Walk. -/
inductive XT where
  | mk (kind : ByteArray) (kids : List XT)
def XT.kind : XT → ByteArray | .mk k _ => k
def XT.kids : XT → List XT | .mk _ ks => ks

def Ast.kind : Ast → ByteArray
  | .ident .. => ⟨#[110, 97, 109, 101]⟩
  | .lit .. => ⟨#[108, 105, 116, 101, 114, 97, 108]⟩
  | .paren .. => ⟨#[112, 97, 114, 101, 110]⟩
  | .unary .. => ⟨#[117, 110, 97, 114, 121]⟩
  | .binary .. => ⟨#[98, 105, 110, 97, 114, 121]⟩
  | .sel .. => ⟨#[115, 101, 108, 101, 99, 116]⟩
  | .index .. => ⟨#[105, 110, 100, 101, 120]⟩
  | .call .. => ⟨#[99, 97, 108, 108]⟩
  | .asrt .. => ⟨#[97, 115, 115, 101, 114, 116]⟩
  | .exprS .. => ⟨#[101, 120, 112, 114, 101, 115, 115, 105, 111, 110]⟩
  | .send .. => ⟨#[115, 101, 110, 100]⟩
  | .step .. => ⟨#[115, 116, 101, 112]⟩
  | .assign .. => ⟨#[97, 115, 115, 105, 103, 110]⟩
  | .goS .. => ⟨#[103, 111]⟩
  | .deferS .. => ⟨#[100, 101, 102, 101, 114]⟩
  | .ret .. => ⟨#[114, 101, 116, 117, 114, 110]⟩
  | .branch .. => ⟨#[98, 114, 97, 110, 99, 104]⟩
  | .label .. => ⟨#[108, 97, 98, 101, 108]⟩
  | .block .. => ⟨#[98, 108, 111, 99, 107]⟩
  | .ifS .. => ⟨#[105, 102]⟩
  | .caseC .. => ⟨#[99, 108, 97, 117, 115, 101]⟩
  | .switchS .. => ⟨#[115, 119, 105, 116, 99, 104]⟩
  | .typesS .. => ⟨#[116, 121, 112, 101, 115]⟩
  | .commC .. => ⟨#[99, 108, 97, 117, 115, 101]⟩
  | .selectS .. => ⟨#[115, 101, 108, 101, 99, 116, 115]⟩
  | .forS .. => ⟨#[102, 111, 114]⟩
  | .rangeS .. => ⟨#[114, 97, 110, 103, 101]⟩
def Ast.isStmt : Ast → Bool
  | .ident .. => false
  | .lit .. => false
  | .paren .. => false
  | .unary .. => false
  | .binary .. => false
  | .sel .. => false
  | .index .. => false
  | .call .. => false
  | .asrt .. => false
  | .exprS .. => true
  | .send .. => true
  | .step .. => true
  | .assign .. => true
  | .goS .. => true
  | .deferS .. => true
  | .ret .. => true
  | .branch .. => true
  | .label .. => true
  | .block .. => true
  | .ifS .. => true
  | .caseC .. => true
  | .switchS .. => true
  | .typesS .. => true
  | .commC .. => true
  | .selectS .. => true
  | .forS .. => true
  | .rangeS .. => true
/-- The number of the pointer type. -/
def Ast.ptype : Ast → Nat
  | .ident .. => 85
  | .lit .. => 81
  | .paren .. => 106
  | .unary .. => 130
  | .binary .. => 134
  | .sel .. => 109
  | .index .. => 112
  | .call .. => 124
  | .asrt .. => 121
  | .exprS .. => 168
  | .send .. => 171
  | .step .. => 174
  | .assign .. => 177
  | .goS .. => 180
  | .deferS .. => 183
  | .ret .. => 186
  | .branch .. => 189
  | .label .. => 165
  | .block .. => 98
  | .ifS .. => 196
  | .caseC .. => 199
  | .switchS .. => 202
  | .typesS .. => 205
  | .commC .. => 208
  | .selectS .. => 211
  | .forS .. => 214
  | .rangeS .. => 217
def Ast.kids : Ast → List Ast
  | .ident _ _ => []
  | .lit _ _ _ _ => []
  | .paren _ x _ => [x]
  | .unary _ _ x => [x]
  | .binary x _ _ y => [x] ++ [y]
  | .sel x y => [x] ++ [y]
  | .index x _ y _ => [x] ++ [y]
  | .call x _ a _ _ => [x] ++ a
  | .asrt x _ y _ => [x] ++ y.toList
  | .exprS x => [x]
  | .send x _ y => [x] ++ [y]
  | .step x _ _ => [x]
  | .assign a _ _ b => a ++ b
  | .goS _ x => [x]
  | .deferS _ x => [x]
  | .ret _ a => a
  | .branch _ _ x => x.toList
  | .label x _ y => [x] ++ [y]
  | .block _ a _ => a
  | .ifS _ x y z u => x.toList ++ [y] ++ [z] ++ u.toList
  | .caseC _ a _ b => a ++ b
  | .switchS _ x y z => x.toList ++ y.toList ++ [z]
  | .typesS _ x y z => x.toList ++ [y] ++ [z]
  | .commC _ x _ b => x.toList ++ b
  | .selectS _ z => [z]
  | .forS _ x y z u => x.toList ++ y.toList ++ z.toList ++ [u]
  | .rangeS _ x y _ _ _ z u => x.toList ++ y.toList ++ [z] ++ [u]

mutual
def Ast.xt : Ast → XT
  | .ident _ _ => .mk ⟨#[110, 97, 109, 101]⟩ ([])
  | .lit _ _ _ _ => .mk ⟨#[108, 105, 116, 101, 114, 97, 108]⟩ ([])
  | .paren _ x _ => .mk ⟨#[112, 97, 114, 101, 110]⟩ ([x.xt])
  | .unary _ _ x => .mk ⟨#[117, 110, 97, 114, 121]⟩ ([x.xt])
  | .binary x _ _ y => .mk ⟨#[98, 105, 110, 97, 114, 121]⟩ ([x.xt] ++ [y.xt])
  | .sel x y => .mk ⟨#[115, 101, 108, 101, 99, 116]⟩ ([x.xt] ++ [y.xt])
  | .index x _ y _ => .mk ⟨#[105, 110, 100, 101, 120]⟩ ([x.xt] ++ [y.xt])
  | .call x _ a _ _ => .mk ⟨#[99, 97, 108, 108]⟩ ([x.xt] ++ xtL a)
  | .asrt x _ y _ => .mk ⟨#[97, 115, 115, 101, 114, 116]⟩ ([x.xt] ++ xtO y)
  | .exprS x => .mk ⟨#[101, 120, 112, 114, 101, 115, 115, 105, 111, 110]⟩ ([x.xt])
  | .send x _ y => .mk ⟨#[115, 101, 110, 100]⟩ ([x.xt] ++ [y.xt])
  | .step x _ _ => .mk ⟨#[115, 116, 101, 112]⟩ ([x.xt])
  | .assign a _ _ b => .mk ⟨#[97, 115, 115, 105, 103, 110]⟩ (xtL a ++ xtL b)
  | .goS _ x => .mk ⟨#[103, 111]⟩ ([x.xt])
  | .deferS _ x => .mk ⟨#[100, 101, 102, 101, 114]⟩ ([x.xt])
  | .ret _ a => .mk ⟨#[114, 101, 116, 117, 114, 110]⟩ (xtL a)
  | .branch _ _ x => .mk ⟨#[98, 114, 97, 110, 99, 104]⟩ (xtO x)
  | .label x _ y => .mk ⟨#[108, 97, 98, 101, 108]⟩ ([x.xt] ++ [y.xt])
  | .block _ a _ => .mk ⟨#[98, 108, 111, 99, 107]⟩ (xtL a)
  | .ifS _ x y z u => .mk ⟨#[105, 102]⟩ (xtO x ++ [y.xt] ++ [z.xt] ++ xtO u)
  | .caseC _ a _ b => .mk ⟨#[99, 108, 97, 117, 115, 101]⟩ (xtL a ++ xtL b)
  | .switchS _ x y z => .mk ⟨#[115, 119, 105, 116, 99, 104]⟩ (xtO x ++ xtO y ++ [z.xt])
  | .typesS _ x y z => .mk ⟨#[116, 121, 112, 101, 115]⟩ (xtO x ++ [y.xt] ++ [z.xt])
  | .commC _ x _ b => .mk ⟨#[99, 108, 97, 117, 115, 101]⟩ (xtO x ++ xtL b)
  | .selectS _ z => .mk ⟨#[115, 101, 108, 101, 99, 116, 115]⟩ ([z.xt])
  | .forS _ x y z u => .mk ⟨#[102, 111, 114]⟩ (xtO x ++ xtO y ++ xtO z ++ [u.xt])
  | .rangeS _ x y _ _ _ z u => .mk ⟨#[114, 97, 110, 103, 101]⟩ (xtO x ++ xtO y ++ [z.xt] ++ [u.xt])
def xtO : Option Ast → List XT
  | none => []
  | some a => [a.xt]
def xtL : List Ast → List XT
  | [] => []
  | a :: l => a.xt :: xtL l
end
theorem xtL_map : ∀ l, xtL l = l.map Ast.xt
  | [] => rfl
  | a :: l => by simp [xtL, xtL_map l]
theorem xtO_map : ∀ o, xtO o = o.toList.map Ast.xt
  | none => rfl
  | some _ => rfl
theorem Ast.xt_eq (a : Ast) : a.xt = .mk a.kind (a.kids.map Ast.xt) := by
  cases a <;> simp [Ast.xt, Ast.kind, Ast.kids, xtL_map, xtO_map]

mutual
/-- The node lies in memory, in blocks of S; v is the pointer to it in an interface. -/
def At (S : Nat → Prop) (w : World) : Ast → Value → Prop
  | .ident p s, v => ∃ ad, v = .iface 85 (.pointer (some ⟨ad, 0, none⟩)) ∧ S ad ∧ w.cell? ⟨ad, 0, none⟩ = some (.int .i64 p) ∧ w.cell? ⟨ad, 1, none⟩ = some (.string s) ∧ w.cell? ⟨ad, 2, none⟩ = some (.pointer none)
  | .lit p e k s, v => ∃ ad, v = .iface 81 (.pointer (some ⟨ad, 0, none⟩)) ∧ S ad ∧ w.cell? ⟨ad, 0, none⟩ = some (.int .i64 p) ∧ w.cell? ⟨ad, 1, none⟩ = some (.int .i64 e) ∧ w.cell? ⟨ad, 2, none⟩ = some (.int .i64 k) ∧ w.cell? ⟨ad, 3, none⟩ = some (.string s)
  | .paren l x r, v => ∃ ad, v = .iface 106 (.pointer (some ⟨ad, 0, none⟩)) ∧ S ad ∧ ∃ vx : Value, w.cell? ⟨ad, 0, none⟩ = some (.int .i64 l) ∧ w.cell? ⟨ad, 1, none⟩ = some vx ∧ At S w x vx ∧ w.cell? ⟨ad, 2, none⟩ = some (.int .i64 r)
  | .unary p t x, v => ∃ ad, v = .iface 130 (.pointer (some ⟨ad, 0, none⟩)) ∧ S ad ∧ ∃ vx : Value, w.cell? ⟨ad, 0, none⟩ = some (.int .i64 p) ∧ w.cell? ⟨ad, 1, none⟩ = some (.int .i64 t) ∧ w.cell? ⟨ad, 2, none⟩ = some vx ∧ At S w x vx
  | .binary x p t y, v => ∃ ad, v = .iface 134 (.pointer (some ⟨ad, 0, none⟩)) ∧ S ad ∧ ∃ vx : Value, ∃ vy : Value, w.cell? ⟨ad, 0, none⟩ = some vx ∧ At S w x vx ∧ w.cell? ⟨ad, 1, none⟩ = some (.int .i64 p) ∧ w.cell? ⟨ad, 2, none⟩ = some (.int .i64 t) ∧ w.cell? ⟨ad, 3, none⟩ = some vy ∧ At S w y vy
  | .sel x y, v => ∃ ad, v = .iface 109 (.pointer (some ⟨ad, 0, none⟩)) ∧ S ad ∧ ∃ vx : Value, ∃ vy : Nat, w.cell? ⟨ad, 0, none⟩ = some vx ∧ At S w x vx ∧ w.cell? ⟨ad, 1, none⟩ = some (.pointer (some ⟨vy, 0, none⟩)) ∧ At S w y (.iface 85 (.pointer (some ⟨vy, 0, none⟩)))
  | .index x l y r, v => ∃ ad, v = .iface 112 (.pointer (some ⟨ad, 0, none⟩)) ∧ S ad ∧ ∃ vx : Value, ∃ vy : Value, w.cell? ⟨ad, 0, none⟩ = some vx ∧ At S w x vx ∧ w.cell? ⟨ad, 1, none⟩ = some (.int .i64 l) ∧ w.cell? ⟨ad, 2, none⟩ = some vy ∧ At S w y vy ∧ w.cell? ⟨ad, 3, none⟩ = some (.int .i64 r)
  | .call x l a e r, v => ∃ ad, v = .iface 124 (.pointer (some ⟨ad, 0, none⟩)) ∧ S ad ∧ ∃ vx : Value, ∃ va : Value, w.cell? ⟨ad, 0, none⟩ = some vx ∧ At S w x vx ∧ w.cell? ⟨ad, 1, none⟩ = some (.int .i64 l) ∧ w.cell? ⟨ad, 2, none⟩ = some va ∧ ((va = .slice none 0 0 ∧ a = []) ∨ ∃ sb so cap, va = .slice (some ⟨sb, so, none⟩) a.length cap ∧ a.length ≤ cap ∧ cap ≤ 9223372036854775807 ∧ AtR S w a sb so) ∧ w.cell? ⟨ad, 3, none⟩ = some (.int .i64 e) ∧ w.cell? ⟨ad, 4, none⟩ = some (.int .i64 r)
  | .asrt x l y r, v => ∃ ad, v = .iface 121 (.pointer (some ⟨ad, 0, none⟩)) ∧ S ad ∧ ∃ vx : Value, ∃ vy : Value, w.cell? ⟨ad, 0, none⟩ = some vx ∧ At S w x vx ∧ w.cell? ⟨ad, 1, none⟩ = some (.int .i64 l) ∧ w.cell? ⟨ad, 2, none⟩ = some vy ∧ AtO S w y vy ∧ w.cell? ⟨ad, 3, none⟩ = some (.int .i64 r)
  | .exprS x, v => ∃ ad, v = .iface 168 (.pointer (some ⟨ad, 0, none⟩)) ∧ S ad ∧ ∃ vx : Value, w.cell? ⟨ad, 0, none⟩ = some vx ∧ At S w x vx
  | .send x p y, v => ∃ ad, v = .iface 171 (.pointer (some ⟨ad, 0, none⟩)) ∧ S ad ∧ ∃ vx : Value, ∃ vy : Value, w.cell? ⟨ad, 0, none⟩ = some vx ∧ At S w x vx ∧ w.cell? ⟨ad, 1, none⟩ = some (.int .i64 p) ∧ w.cell? ⟨ad, 2, none⟩ = some vy ∧ At S w y vy
  | .step x p t, v => ∃ ad, v = .iface 174 (.pointer (some ⟨ad, 0, none⟩)) ∧ S ad ∧ ∃ vx : Value, w.cell? ⟨ad, 0, none⟩ = some vx ∧ At S w x vx ∧ w.cell? ⟨ad, 1, none⟩ = some (.int .i64 p) ∧ w.cell? ⟨ad, 2, none⟩ = some (.int .i64 t)
  | .assign a p t b, v => ∃ ad, v = .iface 177 (.pointer (some ⟨ad, 0, none⟩)) ∧ S ad ∧ ∃ va : Value, ∃ vb : Value, w.cell? ⟨ad, 0, none⟩ = some va ∧ ((va = .slice none 0 0 ∧ a = []) ∨ ∃ sb so cap, va = .slice (some ⟨sb, so, none⟩) a.length cap ∧ a.length ≤ cap ∧ cap ≤ 9223372036854775807 ∧ AtR S w a sb so) ∧ w.cell? ⟨ad, 1, none⟩ = some (.int .i64 p) ∧ w.cell? ⟨ad, 2, none⟩ = some (.int .i64 t) ∧ w.cell? ⟨ad, 3, none⟩ = some vb ∧ ((vb = .slice none 0 0 ∧ b = []) ∨ ∃ sb so cap, vb = .slice (some ⟨sb, so, none⟩) b.length cap ∧ b.length ≤ cap ∧ cap ≤ 9223372036854775807 ∧ AtR S w b sb so)
  | .goS p x, v => ∃ ad, v = .iface 180 (.pointer (some ⟨ad, 0, none⟩)) ∧ S ad ∧ ∃ vx : Nat, w.cell? ⟨ad, 0, none⟩ = some (.int .i64 p) ∧ w.cell? ⟨ad, 1, none⟩ = some (.pointer (some ⟨vx, 0, none⟩)) ∧ At S w x (.iface 124 (.pointer (some ⟨vx, 0, none⟩)))
  | .deferS p x, v => ∃ ad, v = .iface 183 (.pointer (some ⟨ad, 0, none⟩)) ∧ S ad ∧ ∃ vx : Nat, w.cell? ⟨ad, 0, none⟩ = some (.int .i64 p) ∧ w.cell? ⟨ad, 1, none⟩ = some (.pointer (some ⟨vx, 0, none⟩)) ∧ At S w x (.iface 124 (.pointer (some ⟨vx, 0, none⟩)))
  | .ret p a, v => ∃ ad, v = .iface 186 (.pointer (some ⟨ad, 0, none⟩)) ∧ S ad ∧ ∃ va : Value, w.cell? ⟨ad, 0, none⟩ = some (.int .i64 p) ∧ w.cell? ⟨ad, 1, none⟩ = some va ∧ ((va = .slice none 0 0 ∧ a = []) ∨ ∃ sb so cap, va = .slice (some ⟨sb, so, none⟩) a.length cap ∧ a.length ≤ cap ∧ cap ≤ 9223372036854775807 ∧ AtR S w a sb so)
  | .branch p t x, v => ∃ ad, v = .iface 189 (.pointer (some ⟨ad, 0, none⟩)) ∧ S ad ∧ ∃ vx : Value, w.cell? ⟨ad, 0, none⟩ = some (.int .i64 p) ∧ w.cell? ⟨ad, 1, none⟩ = some (.int .i64 t) ∧ w.cell? ⟨ad, 2, none⟩ = some vx ∧ AtQ S w x vx
  | .label x c y, v => ∃ ad, v = .iface 165 (.pointer (some ⟨ad, 0, none⟩)) ∧ S ad ∧ ∃ vx : Nat, ∃ vy : Value, w.cell? ⟨ad, 0, none⟩ = some (.pointer (some ⟨vx, 0, none⟩)) ∧ At S w x (.iface 85 (.pointer (some ⟨vx, 0, none⟩))) ∧ w.cell? ⟨ad, 1, none⟩ = some (.int .i64 c) ∧ w.cell? ⟨ad, 2, none⟩ = some vy ∧ At S w y vy
  | .block l a r, v => ∃ ad, v = .iface 98 (.pointer (some ⟨ad, 0, none⟩)) ∧ S ad ∧ ∃ va : Value, w.cell? ⟨ad, 0, none⟩ = some (.int .i64 l) ∧ w.cell? ⟨ad, 1, none⟩ = some va ∧ ((va = .slice none 0 0 ∧ a = []) ∨ ∃ sb so cap, va = .slice (some ⟨sb, so, none⟩) a.length cap ∧ a.length ≤ cap ∧ cap ≤ 9223372036854775807 ∧ AtR S w a sb so) ∧ w.cell? ⟨ad, 2, none⟩ = some (.int .i64 r)
  | .ifS p x y z u, v => ∃ ad, v = .iface 196 (.pointer (some ⟨ad, 0, none⟩)) ∧ S ad ∧ ∃ vx : Value, ∃ vy : Value, ∃ vz : Nat, ∃ vu : Value, w.cell? ⟨ad, 0, none⟩ = some (.int .i64 p) ∧ w.cell? ⟨ad, 1, none⟩ = some vx ∧ AtO S w x vx ∧ w.cell? ⟨ad, 2, none⟩ = some vy ∧ At S w y vy ∧ w.cell? ⟨ad, 3, none⟩ = some (.pointer (some ⟨vz, 0, none⟩)) ∧ At S w z (.iface 98 (.pointer (some ⟨vz, 0, none⟩))) ∧ w.cell? ⟨ad, 4, none⟩ = some vu ∧ AtO S w u vu
  | .caseC p a c b, v => ∃ ad, v = .iface 199 (.pointer (some ⟨ad, 0, none⟩)) ∧ S ad ∧ ∃ va : Value, ∃ vb : Value, w.cell? ⟨ad, 0, none⟩ = some (.int .i64 p) ∧ w.cell? ⟨ad, 1, none⟩ = some va ∧ ((va = .slice none 0 0 ∧ a = []) ∨ ∃ sb so cap, va = .slice (some ⟨sb, so, none⟩) a.length cap ∧ a.length ≤ cap ∧ cap ≤ 9223372036854775807 ∧ AtR S w a sb so) ∧ w.cell? ⟨ad, 2, none⟩ = some (.int .i64 c) ∧ w.cell? ⟨ad, 3, none⟩ = some vb ∧ ((vb = .slice none 0 0 ∧ b = []) ∨ ∃ sb so cap, vb = .slice (some ⟨sb, so, none⟩) b.length cap ∧ b.length ≤ cap ∧ cap ≤ 9223372036854775807 ∧ AtR S w b sb so)
  | .switchS p x y z, v => ∃ ad, v = .iface 202 (.pointer (some ⟨ad, 0, none⟩)) ∧ S ad ∧ ∃ vx : Value, ∃ vy : Value, ∃ vz : Nat, w.cell? ⟨ad, 0, none⟩ = some (.int .i64 p) ∧ w.cell? ⟨ad, 1, none⟩ = some vx ∧ AtO S w x vx ∧ w.cell? ⟨ad, 2, none⟩ = some vy ∧ AtO S w y vy ∧ w.cell? ⟨ad, 3, none⟩ = some (.pointer (some ⟨vz, 0, none⟩)) ∧ At S w z (.iface 98 (.pointer (some ⟨vz, 0, none⟩)))
  | .typesS p x y z, v => ∃ ad, v = .iface 205 (.pointer (some ⟨ad, 0, none⟩)) ∧ S ad ∧ ∃ vx : Value, ∃ vy : Value, ∃ vz : Nat, w.cell? ⟨ad, 0, none⟩ = some (.int .i64 p) ∧ w.cell? ⟨ad, 1, none⟩ = some vx ∧ AtO S w x vx ∧ w.cell? ⟨ad, 2, none⟩ = some vy ∧ At S w y vy ∧ w.cell? ⟨ad, 3, none⟩ = some (.pointer (some ⟨vz, 0, none⟩)) ∧ At S w z (.iface 98 (.pointer (some ⟨vz, 0, none⟩)))
  | .commC p x c b, v => ∃ ad, v = .iface 208 (.pointer (some ⟨ad, 0, none⟩)) ∧ S ad ∧ ∃ vx : Value, ∃ vb : Value, w.cell? ⟨ad, 0, none⟩ = some (.int .i64 p) ∧ w.cell? ⟨ad, 1, none⟩ = some vx ∧ AtO S w x vx ∧ w.cell? ⟨ad, 2, none⟩ = some (.int .i64 c) ∧ w.cell? ⟨ad, 3, none⟩ = some vb ∧ ((vb = .slice none 0 0 ∧ b = []) ∨ ∃ sb so cap, vb = .slice (some ⟨sb, so, none⟩) b.length cap ∧ b.length ≤ cap ∧ cap ≤ 9223372036854775807 ∧ AtR S w b sb so)
  | .selectS p z, v => ∃ ad, v = .iface 211 (.pointer (some ⟨ad, 0, none⟩)) ∧ S ad ∧ ∃ vz : Nat, w.cell? ⟨ad, 0, none⟩ = some (.int .i64 p) ∧ w.cell? ⟨ad, 1, none⟩ = some (.pointer (some ⟨vz, 0, none⟩)) ∧ At S w z (.iface 98 (.pointer (some ⟨vz, 0, none⟩)))
  | .forS p x y z u, v => ∃ ad, v = .iface 214 (.pointer (some ⟨ad, 0, none⟩)) ∧ S ad ∧ ∃ vx : Value, ∃ vy : Value, ∃ vz : Value, ∃ vu : Nat, w.cell? ⟨ad, 0, none⟩ = some (.int .i64 p) ∧ w.cell? ⟨ad, 1, none⟩ = some vx ∧ AtO S w x vx ∧ w.cell? ⟨ad, 2, none⟩ = some vy ∧ AtO S w y vy ∧ w.cell? ⟨ad, 3, none⟩ = some vz ∧ AtO S w z vz ∧ w.cell? ⟨ad, 4, none⟩ = some (.pointer (some ⟨vu, 0, none⟩)) ∧ At S w u (.iface 98 (.pointer (some ⟨vu, 0, none⟩)))
  | .rangeS p x y q t r z u, v => ∃ ad, v = .iface 217 (.pointer (some ⟨ad, 0, none⟩)) ∧ S ad ∧ ∃ vx : Value, ∃ vy : Value, ∃ vz : Value, ∃ vu : Nat, w.cell? ⟨ad, 0, none⟩ = some (.int .i64 p) ∧ w.cell? ⟨ad, 1, none⟩ = some vx ∧ AtO S w x vx ∧ w.cell? ⟨ad, 2, none⟩ = some vy ∧ AtO S w y vy ∧ w.cell? ⟨ad, 3, none⟩ = some (.int .i64 q) ∧ w.cell? ⟨ad, 4, none⟩ = some (.int .i64 t) ∧ w.cell? ⟨ad, 5, none⟩ = some (.int .i64 r) ∧ w.cell? ⟨ad, 6, none⟩ = some vz ∧ At S w z vz ∧ w.cell? ⟨ad, 7, none⟩ = some (.pointer (some ⟨vu, 0, none⟩)) ∧ At S w u (.iface 98 (.pointer (some ⟨vu, 0, none⟩)))
def AtO (S : Nat → Prop) (w : World) : Option Ast → Value → Prop
  | none, v => v = .nilIface
  | some a, v => At S w a v
def AtQ (S : Nat → Prop) (w : World) : Option Ast → Value → Prop
  | none, v => v = .pointer none
  | some a, v => ∃ c, v = .pointer (some ⟨c, 0, none⟩) ∧ At S w a (.iface 85 (.pointer (some ⟨c, 0, none⟩)))
def AtR (S : Nat → Prop) (w : World) : List Ast → Nat → Nat → Prop
  | [], _, _ => True
  | a :: l, b, o => ∃ v, S b ∧ w.cell? ⟨b, o, none⟩ = some v ∧ At S w a v ∧ AtR S w l b (o + 1)
end
/-- A slice of nodes in memory. -/
def AtS (S : Nat → Prop) (w : World) (l : List Ast) (v : Value) : Prop := (v = .slice none 0 0 ∧ l = []) ∨ ∃ sb so cap, v = .slice (some ⟨sb, so, none⟩) l.length cap ∧ l.length ≤ cap ∧ cap ≤ 9223372036854775807 ∧ AtR S w l sb so

/-- What lies in blocks of S lies on. -/
def Mid (S : Nat → Prop) (w w1 : World) : Prop := ∀ k, S k → w1.heap[k]? = w.heap[k]?
theorem Mid.refl (S w) : Mid S w w := fun _ _ => rfl
theorem Mid.trans {S a b c} (h : Mid S a b) (k : Mid S b c) : Mid S a c := fun i h1 => (k i h1).trans (h i h1)
theorem Mid.mono {S T : Nat → Prop} {a b} (h : Mid S a b) (h1 : ∀ k, T k → S k) : Mid T a b := fun i k => h i (h1 i k)
theorem Mid.cell {S : Nat → Prop} {w w1} (h : Mid S w w1) {b o : Nat} (h1 : S b) : w1.cell? ⟨b, o, none⟩ = w.cell? ⟨b, o, none⟩ := World.cell?_of_block (h b h1)

mutual
theorem At.stay {S S1 : Nat → Prop} {w w1 : World} (hS : ∀ k, S k → S1 k) (h : Mid S w w1) : ∀ (a : Ast) (v : Value), At S w a v → At S1 w1 a v
  | .ident p s, v, hv => by
    simp only [At] at hv ⊢
    obtain ⟨ad, hv, hb1, c0, c1, c2⟩ := hv
    exact ⟨ad, hv, hS ad hb1, (h.cell hb1).trans c0, (h.cell hb1).trans c1, (h.cell hb1).trans c2⟩
  | .lit p e k s, v, hv => by
    simp only [At] at hv ⊢
    obtain ⟨ad, hv, hb1, c0, c1, c2, c3⟩ := hv
    exact ⟨ad, hv, hS ad hb1, (h.cell hb1).trans c0, (h.cell hb1).trans c1, (h.cell hb1).trans c2, (h.cell hb1).trans c3⟩
  | .paren l x r, v, hv => by
    simp only [At] at hv ⊢
    obtain ⟨ad, hv, hb1, vx, c0, c1, hx, c2⟩ := hv
    exact ⟨ad, hv, hS ad hb1, vx, (h.cell hb1).trans c0, (h.cell hb1).trans c1, At.stay hS h _ _ hx, (h.cell hb1).trans c2⟩
  | .unary p t x, v, hv => by
    simp only [At] at hv ⊢
    obtain ⟨ad, hv, hb1, vx, c0, c1, c2, hx⟩ := hv
    exact ⟨ad, hv, hS ad hb1, vx, (h.cell hb1).trans c0, (h.cell hb1).trans c1, (h.cell hb1).trans c2, At.stay hS h _ _ hx⟩
  | .binary x p t y, v, hv => by
    simp only [At] at hv ⊢
    obtain ⟨ad, hv, hb1, vx, vy, c0, hx, c1, c2, c3, hy⟩ := hv
    exact ⟨ad, hv, hS ad hb1, vx, vy, (h.cell hb1).trans c0, At.stay hS h _ _ hx, (h.cell hb1).trans c1, (h.cell hb1).trans c2, (h.cell hb1).trans c3, At.stay hS h _ _ hy⟩
  | .sel x y, v, hv => by
    simp only [At] at hv ⊢
    obtain ⟨ad, hv, hb1, vx, vy, c0, hx, c1, hy⟩ := hv
    exact ⟨ad, hv, hS ad hb1, vx, vy, (h.cell hb1).trans c0, At.stay hS h _ _ hx, (h.cell hb1).trans c1, At.stay hS h _ _ hy⟩
  | .index x l y r, v, hv => by
    simp only [At] at hv ⊢
    obtain ⟨ad, hv, hb1, vx, vy, c0, hx, c1, c2, hy, c3⟩ := hv
    exact ⟨ad, hv, hS ad hb1, vx, vy, (h.cell hb1).trans c0, At.stay hS h _ _ hx, (h.cell hb1).trans c1, (h.cell hb1).trans c2, At.stay hS h _ _ hy, (h.cell hb1).trans c3⟩
  | .call x l a e r, v, hv => by
    simp only [At] at hv ⊢
    obtain ⟨ad, hv, hb1, vx, va, c0, hx, c1, c2, ha, c3, c4⟩ := hv
    exact ⟨ad, hv, hS ad hb1, vx, va, (h.cell hb1).trans c0, At.stay hS h _ _ hx, (h.cell hb1).trans c1, (h.cell hb1).trans c2, ha.imp id (fun ⟨sb, so, cap, e, l1, l2, r⟩ => ⟨sb, so, cap, e, l1, l2, AtR.stay hS h _ _ _ r⟩), (h.cell hb1).trans c3, (h.cell hb1).trans c4⟩
  | .asrt x l y r, v, hv => by
    simp only [At] at hv ⊢
    obtain ⟨ad, hv, hb1, vx, vy, c0, hx, c1, c2, hy, c3⟩ := hv
    exact ⟨ad, hv, hS ad hb1, vx, vy, (h.cell hb1).trans c0, At.stay hS h _ _ hx, (h.cell hb1).trans c1, (h.cell hb1).trans c2, AtO.stay hS h _ _ hy, (h.cell hb1).trans c3⟩
  | .exprS x, v, hv => by
    simp only [At] at hv ⊢
    obtain ⟨ad, hv, hb1, vx, c0, hx⟩ := hv
    exact ⟨ad, hv, hS ad hb1, vx, (h.cell hb1).trans c0, At.stay hS h _ _ hx⟩
  | .send x p y, v, hv => by
    simp only [At] at hv ⊢
    obtain ⟨ad, hv, hb1, vx, vy, c0, hx, c1, c2, hy⟩ := hv
    exact ⟨ad, hv, hS ad hb1, vx, vy, (h.cell hb1).trans c0, At.stay hS h _ _ hx, (h.cell hb1).trans c1, (h.cell hb1).trans c2, At.stay hS h _ _ hy⟩
  | .step x p t, v, hv => by
    simp only [At] at hv ⊢
    obtain ⟨ad, hv, hb1, vx, c0, hx, c1, c2⟩ := hv
    exact ⟨ad, hv, hS ad hb1, vx, (h.cell hb1).trans c0, At.stay hS h _ _ hx, (h.cell hb1).trans c1, (h.cell hb1).trans c2⟩
  | .assign a p t b, v, hv => by
    simp only [At] at hv ⊢
    obtain ⟨ad, hv, hb1, va, vb, c0, ha, c1, c2, c3, hb⟩ := hv
    exact ⟨ad, hv, hS ad hb1, va, vb, (h.cell hb1).trans c0, ha.imp id (fun ⟨sb, so, cap, e, l1, l2, r⟩ => ⟨sb, so, cap, e, l1, l2, AtR.stay hS h _ _ _ r⟩), (h.cell hb1).trans c1, (h.cell hb1).trans c2, (h.cell hb1).trans c3, hb.imp id (fun ⟨sb, so, cap, e, l1, l2, r⟩ => ⟨sb, so, cap, e, l1, l2, AtR.stay hS h _ _ _ r⟩)⟩
  | .goS p x, v, hv => by
    simp only [At] at hv ⊢
    obtain ⟨ad, hv, hb1, vx, c0, c1, hx⟩ := hv
    exact ⟨ad, hv, hS ad hb1, vx, (h.cell hb1).trans c0, (h.cell hb1).trans c1, At.stay hS h _ _ hx⟩
  | .deferS p x, v, hv => by
    simp only [At] at hv ⊢
    obtain ⟨ad, hv, hb1, vx, c0, c1, hx⟩ := hv
    exact ⟨ad, hv, hS ad hb1, vx, (h.cell hb1).trans c0, (h.cell hb1).trans c1, At.stay hS h _ _ hx⟩
  | .ret p a, v, hv => by
    simp only [At] at hv ⊢
    obtain ⟨ad, hv, hb1, va, c0, c1, ha⟩ := hv
    exact ⟨ad, hv, hS ad hb1, va, (h.cell hb1).trans c0, (h.cell hb1).trans c1, ha.imp id (fun ⟨sb, so, cap, e, l1, l2, r⟩ => ⟨sb, so, cap, e, l1, l2, AtR.stay hS h _ _ _ r⟩)⟩
  | .branch p t x, v, hv => by
    simp only [At] at hv ⊢
    obtain ⟨ad, hv, hb1, vx, c0, c1, c2, hx⟩ := hv
    exact ⟨ad, hv, hS ad hb1, vx, (h.cell hb1).trans c0, (h.cell hb1).trans c1, (h.cell hb1).trans c2, AtQ.stay hS h _ _ hx⟩
  | .label x c y, v, hv => by
    simp only [At] at hv ⊢
    obtain ⟨ad, hv, hb1, vx, vy, c0, hx, c1, c2, hy⟩ := hv
    exact ⟨ad, hv, hS ad hb1, vx, vy, (h.cell hb1).trans c0, At.stay hS h _ _ hx, (h.cell hb1).trans c1, (h.cell hb1).trans c2, At.stay hS h _ _ hy⟩
  | .block l a r, v, hv => by
    simp only [At] at hv ⊢
    obtain ⟨ad, hv, hb1, va, c0, c1, ha, c2⟩ := hv
    exact ⟨ad, hv, hS ad hb1, va, (h.cell hb1).trans c0, (h.cell hb1).trans c1, ha.imp id (fun ⟨sb, so, cap, e, l1, l2, r⟩ => ⟨sb, so, cap, e, l1, l2, AtR.stay hS h _ _ _ r⟩), (h.cell hb1).trans c2⟩
  | .ifS p x y z u, v, hv => by
    simp only [At] at hv ⊢
    obtain ⟨ad, hv, hb1, vx, vy, vz, vu, c0, c1, hx, c2, hy, c3, hz, c4, hu⟩ := hv
    exact ⟨ad, hv, hS ad hb1, vx, vy, vz, vu, (h.cell hb1).trans c0, (h.cell hb1).trans c1, AtO.stay hS h _ _ hx, (h.cell hb1).trans c2, At.stay hS h _ _ hy, (h.cell hb1).trans c3, At.stay hS h _ _ hz, (h.cell hb1).trans c4, AtO.stay hS h _ _ hu⟩
  | .caseC p a c b, v, hv => by
    simp only [At] at hv ⊢
    obtain ⟨ad, hv, hb1, va, vb, c0, c1, ha, c2, c3, hb⟩ := hv
    exact ⟨ad, hv, hS ad hb1, va, vb, (h.cell hb1).trans c0, (h.cell hb1).trans c1, ha.imp id (fun ⟨sb, so, cap, e, l1, l2, r⟩ => ⟨sb, so, cap, e, l1, l2, AtR.stay hS h _ _ _ r⟩), (h.cell hb1).trans c2, (h.cell hb1).trans c3, hb.imp id (fun ⟨sb, so, cap, e, l1, l2, r⟩ => ⟨sb, so, cap, e, l1, l2, AtR.stay hS h _ _ _ r⟩)⟩
  | .switchS p x y z, v, hv => by
    simp only [At] at hv ⊢
    obtain ⟨ad, hv, hb1, vx, vy, vz, c0, c1, hx, c2, hy, c3, hz⟩ := hv
    exact ⟨ad, hv, hS ad hb1, vx, vy, vz, (h.cell hb1).trans c0, (h.cell hb1).trans c1, AtO.stay hS h _ _ hx, (h.cell hb1).trans c2, AtO.stay hS h _ _ hy, (h.cell hb1).trans c3, At.stay hS h _ _ hz⟩
  | .typesS p x y z, v, hv => by
    simp only [At] at hv ⊢
    obtain ⟨ad, hv, hb1, vx, vy, vz, c0, c1, hx, c2, hy, c3, hz⟩ := hv
    exact ⟨ad, hv, hS ad hb1, vx, vy, vz, (h.cell hb1).trans c0, (h.cell hb1).trans c1, AtO.stay hS h _ _ hx, (h.cell hb1).trans c2, At.stay hS h _ _ hy, (h.cell hb1).trans c3, At.stay hS h _ _ hz⟩
  | .commC p x c b, v, hv => by
    simp only [At] at hv ⊢
    obtain ⟨ad, hv, hb1, vx, vb, c0, c1, hx, c2, c3, hb⟩ := hv
    exact ⟨ad, hv, hS ad hb1, vx, vb, (h.cell hb1).trans c0, (h.cell hb1).trans c1, AtO.stay hS h _ _ hx, (h.cell hb1).trans c2, (h.cell hb1).trans c3, hb.imp id (fun ⟨sb, so, cap, e, l1, l2, r⟩ => ⟨sb, so, cap, e, l1, l2, AtR.stay hS h _ _ _ r⟩)⟩
  | .selectS p z, v, hv => by
    simp only [At] at hv ⊢
    obtain ⟨ad, hv, hb1, vz, c0, c1, hz⟩ := hv
    exact ⟨ad, hv, hS ad hb1, vz, (h.cell hb1).trans c0, (h.cell hb1).trans c1, At.stay hS h _ _ hz⟩
  | .forS p x y z u, v, hv => by
    simp only [At] at hv ⊢
    obtain ⟨ad, hv, hb1, vx, vy, vz, vu, c0, c1, hx, c2, hy, c3, hz, c4, hu⟩ := hv
    exact ⟨ad, hv, hS ad hb1, vx, vy, vz, vu, (h.cell hb1).trans c0, (h.cell hb1).trans c1, AtO.stay hS h _ _ hx, (h.cell hb1).trans c2, AtO.stay hS h _ _ hy, (h.cell hb1).trans c3, AtO.stay hS h _ _ hz, (h.cell hb1).trans c4, At.stay hS h _ _ hu⟩
  | .rangeS p x y q t r z u, v, hv => by
    simp only [At] at hv ⊢
    obtain ⟨ad, hv, hb1, vx, vy, vz, vu, c0, c1, hx, c2, hy, c3, c4, c5, c6, hz, c7, hu⟩ := hv
    exact ⟨ad, hv, hS ad hb1, vx, vy, vz, vu, (h.cell hb1).trans c0, (h.cell hb1).trans c1, AtO.stay hS h _ _ hx, (h.cell hb1).trans c2, AtO.stay hS h _ _ hy, (h.cell hb1).trans c3, (h.cell hb1).trans c4, (h.cell hb1).trans c5, (h.cell hb1).trans c6, At.stay hS h _ _ hz, (h.cell hb1).trans c7, At.stay hS h _ _ hu⟩
theorem AtO.stay {S S1 : Nat → Prop} {w w1 : World} (hS : ∀ k, S k → S1 k) (h : Mid S w w1) : ∀ (a : Option Ast) (v : Value), AtO S w a v → AtO S1 w1 a v
  | none, _, hv => by simpa only [AtO] using hv
  | some a, v, hv => by simp only [AtO] at hv ⊢; exact At.stay hS h a v hv
theorem AtQ.stay {S S1 : Nat → Prop} {w w1 : World} (hS : ∀ k, S k → S1 k) (h : Mid S w w1) : ∀ (a : Option Ast) (v : Value), AtQ S w a v → AtQ S1 w1 a v
  | none, _, hv => by simpa only [AtQ] using hv
  | some a, v, hv => by simp only [AtQ] at hv ⊢; obtain ⟨c, e, hc⟩ := hv; exact ⟨c, e, At.stay hS h a _ hc⟩
theorem AtR.stay {S S1 : Nat → Prop} {w w1 : World} (hS : ∀ k, S k → S1 k) (h : Mid S w w1) : ∀ (l : List Ast) (b o : Nat), AtR S w l b o → AtR S1 w1 l b o
  | [], _, _, _ => by simp [AtR]
  | a :: l, b, o, hv => by
    simp only [AtR] at hv ⊢
    obtain ⟨v, hb1, c, ha, hl⟩ := hv
    exact ⟨v, hS b hb1, (h.cell hb1).trans c, At.stay hS h a v ha, AtR.stay hS h l b (o + 1) hl⟩
end
theorem AtS.stay {S S1 : Nat → Prop} {w w1 : World} (hS : ∀ k, S k → S1 k) (h : Mid S w w1) {l : List Ast} {v : Value} (hv : AtS S w l v) : AtS S1 w1 l v :=
  hv.imp id (fun ⟨sb, so, cap, e, l1, l2, r⟩ => ⟨sb, so, cap, e, l1, l2, AtR.stay hS h _ _ _ r⟩)

theorem At_ident {S : Nat → Prop} {w : World} {p : Int} {s : ByteArray} {v : Value} : At S w (.ident p s) v ↔ ∃ ad, v = .iface 85 (.pointer (some ⟨ad, 0, none⟩)) ∧ S ad ∧ w.cell? ⟨ad, 0, none⟩ = some (.int .i64 p) ∧ w.cell? ⟨ad, 1, none⟩ = some (.string s) ∧ w.cell? ⟨ad, 2, none⟩ = some (.pointer none) := by simp only [At]
theorem At_lit {S : Nat → Prop} {w : World} {p : Int} {e : Int} {k : Int} {s : ByteArray} {v : Value} : At S w (.lit p e k s) v ↔ ∃ ad, v = .iface 81 (.pointer (some ⟨ad, 0, none⟩)) ∧ S ad ∧ w.cell? ⟨ad, 0, none⟩ = some (.int .i64 p) ∧ w.cell? ⟨ad, 1, none⟩ = some (.int .i64 e) ∧ w.cell? ⟨ad, 2, none⟩ = some (.int .i64 k) ∧ w.cell? ⟨ad, 3, none⟩ = some (.string s) := by simp only [At]
theorem At_paren {S : Nat → Prop} {w : World} {l : Int} {x : Ast} {r : Int} {v : Value} : At S w (.paren l x r) v ↔ ∃ ad, v = .iface 106 (.pointer (some ⟨ad, 0, none⟩)) ∧ S ad ∧ ∃ vx : Value, w.cell? ⟨ad, 0, none⟩ = some (.int .i64 l) ∧ w.cell? ⟨ad, 1, none⟩ = some vx ∧ At S w x vx ∧ w.cell? ⟨ad, 2, none⟩ = some (.int .i64 r) := by simp only [At]
theorem At_unary {S : Nat → Prop} {w : World} {p : Int} {t : Int} {x : Ast} {v : Value} : At S w (.unary p t x) v ↔ ∃ ad, v = .iface 130 (.pointer (some ⟨ad, 0, none⟩)) ∧ S ad ∧ ∃ vx : Value, w.cell? ⟨ad, 0, none⟩ = some (.int .i64 p) ∧ w.cell? ⟨ad, 1, none⟩ = some (.int .i64 t) ∧ w.cell? ⟨ad, 2, none⟩ = some vx ∧ At S w x vx := by simp only [At]
theorem At_binary {S : Nat → Prop} {w : World} {x : Ast} {p : Int} {t : Int} {y : Ast} {v : Value} : At S w (.binary x p t y) v ↔ ∃ ad, v = .iface 134 (.pointer (some ⟨ad, 0, none⟩)) ∧ S ad ∧ ∃ vx : Value, ∃ vy : Value, w.cell? ⟨ad, 0, none⟩ = some vx ∧ At S w x vx ∧ w.cell? ⟨ad, 1, none⟩ = some (.int .i64 p) ∧ w.cell? ⟨ad, 2, none⟩ = some (.int .i64 t) ∧ w.cell? ⟨ad, 3, none⟩ = some vy ∧ At S w y vy := by simp only [At]
theorem At_sel {S : Nat → Prop} {w : World} {x : Ast} {y : Ast} {v : Value} : At S w (.sel x y) v ↔ ∃ ad, v = .iface 109 (.pointer (some ⟨ad, 0, none⟩)) ∧ S ad ∧ ∃ vx : Value, ∃ vy : Nat, w.cell? ⟨ad, 0, none⟩ = some vx ∧ At S w x vx ∧ w.cell? ⟨ad, 1, none⟩ = some (.pointer (some ⟨vy, 0, none⟩)) ∧ At S w y (.iface 85 (.pointer (some ⟨vy, 0, none⟩))) := by simp only [At]
theorem At_index {S : Nat → Prop} {w : World} {x : Ast} {l : Int} {y : Ast} {r : Int} {v : Value} : At S w (.index x l y r) v ↔ ∃ ad, v = .iface 112 (.pointer (some ⟨ad, 0, none⟩)) ∧ S ad ∧ ∃ vx : Value, ∃ vy : Value, w.cell? ⟨ad, 0, none⟩ = some vx ∧ At S w x vx ∧ w.cell? ⟨ad, 1, none⟩ = some (.int .i64 l) ∧ w.cell? ⟨ad, 2, none⟩ = some vy ∧ At S w y vy ∧ w.cell? ⟨ad, 3, none⟩ = some (.int .i64 r) := by simp only [At]
theorem At_call {S : Nat → Prop} {w : World} {x : Ast} {l : Int} {a : List Ast} {e : Int} {r : Int} {v : Value} : At S w (.call x l a e r) v ↔ ∃ ad, v = .iface 124 (.pointer (some ⟨ad, 0, none⟩)) ∧ S ad ∧ ∃ vx : Value, ∃ va : Value, w.cell? ⟨ad, 0, none⟩ = some vx ∧ At S w x vx ∧ w.cell? ⟨ad, 1, none⟩ = some (.int .i64 l) ∧ w.cell? ⟨ad, 2, none⟩ = some va ∧ ((va = .slice none 0 0 ∧ a = []) ∨ ∃ sb so cap, va = .slice (some ⟨sb, so, none⟩) a.length cap ∧ a.length ≤ cap ∧ cap ≤ 9223372036854775807 ∧ AtR S w a sb so) ∧ w.cell? ⟨ad, 3, none⟩ = some (.int .i64 e) ∧ w.cell? ⟨ad, 4, none⟩ = some (.int .i64 r) := by simp only [At]
theorem At_asrt {S : Nat → Prop} {w : World} {x : Ast} {l : Int} {y : Option Ast} {r : Int} {v : Value} : At S w (.asrt x l y r) v ↔ ∃ ad, v = .iface 121 (.pointer (some ⟨ad, 0, none⟩)) ∧ S ad ∧ ∃ vx : Value, ∃ vy : Value, w.cell? ⟨ad, 0, none⟩ = some vx ∧ At S w x vx ∧ w.cell? ⟨ad, 1, none⟩ = some (.int .i64 l) ∧ w.cell? ⟨ad, 2, none⟩ = some vy ∧ AtO S w y vy ∧ w.cell? ⟨ad, 3, none⟩ = some (.int .i64 r) := by simp only [At]
theorem At_exprS {S : Nat → Prop} {w : World} {x : Ast} {v : Value} : At S w (.exprS x) v ↔ ∃ ad, v = .iface 168 (.pointer (some ⟨ad, 0, none⟩)) ∧ S ad ∧ ∃ vx : Value, w.cell? ⟨ad, 0, none⟩ = some vx ∧ At S w x vx := by simp only [At]
theorem At_send {S : Nat → Prop} {w : World} {x : Ast} {p : Int} {y : Ast} {v : Value} : At S w (.send x p y) v ↔ ∃ ad, v = .iface 171 (.pointer (some ⟨ad, 0, none⟩)) ∧ S ad ∧ ∃ vx : Value, ∃ vy : Value, w.cell? ⟨ad, 0, none⟩ = some vx ∧ At S w x vx ∧ w.cell? ⟨ad, 1, none⟩ = some (.int .i64 p) ∧ w.cell? ⟨ad, 2, none⟩ = some vy ∧ At S w y vy := by simp only [At]
theorem At_step {S : Nat → Prop} {w : World} {x : Ast} {p : Int} {t : Int} {v : Value} : At S w (.step x p t) v ↔ ∃ ad, v = .iface 174 (.pointer (some ⟨ad, 0, none⟩)) ∧ S ad ∧ ∃ vx : Value, w.cell? ⟨ad, 0, none⟩ = some vx ∧ At S w x vx ∧ w.cell? ⟨ad, 1, none⟩ = some (.int .i64 p) ∧ w.cell? ⟨ad, 2, none⟩ = some (.int .i64 t) := by simp only [At]
theorem At_assign {S : Nat → Prop} {w : World} {a : List Ast} {p : Int} {t : Int} {b : List Ast} {v : Value} : At S w (.assign a p t b) v ↔ ∃ ad, v = .iface 177 (.pointer (some ⟨ad, 0, none⟩)) ∧ S ad ∧ ∃ va : Value, ∃ vb : Value, w.cell? ⟨ad, 0, none⟩ = some va ∧ ((va = .slice none 0 0 ∧ a = []) ∨ ∃ sb so cap, va = .slice (some ⟨sb, so, none⟩) a.length cap ∧ a.length ≤ cap ∧ cap ≤ 9223372036854775807 ∧ AtR S w a sb so) ∧ w.cell? ⟨ad, 1, none⟩ = some (.int .i64 p) ∧ w.cell? ⟨ad, 2, none⟩ = some (.int .i64 t) ∧ w.cell? ⟨ad, 3, none⟩ = some vb ∧ ((vb = .slice none 0 0 ∧ b = []) ∨ ∃ sb so cap, vb = .slice (some ⟨sb, so, none⟩) b.length cap ∧ b.length ≤ cap ∧ cap ≤ 9223372036854775807 ∧ AtR S w b sb so) := by simp only [At]
theorem At_goS {S : Nat → Prop} {w : World} {p : Int} {x : Ast} {v : Value} : At S w (.goS p x) v ↔ ∃ ad, v = .iface 180 (.pointer (some ⟨ad, 0, none⟩)) ∧ S ad ∧ ∃ vx : Nat, w.cell? ⟨ad, 0, none⟩ = some (.int .i64 p) ∧ w.cell? ⟨ad, 1, none⟩ = some (.pointer (some ⟨vx, 0, none⟩)) ∧ At S w x (.iface 124 (.pointer (some ⟨vx, 0, none⟩))) := by simp only [At]
theorem At_deferS {S : Nat → Prop} {w : World} {p : Int} {x : Ast} {v : Value} : At S w (.deferS p x) v ↔ ∃ ad, v = .iface 183 (.pointer (some ⟨ad, 0, none⟩)) ∧ S ad ∧ ∃ vx : Nat, w.cell? ⟨ad, 0, none⟩ = some (.int .i64 p) ∧ w.cell? ⟨ad, 1, none⟩ = some (.pointer (some ⟨vx, 0, none⟩)) ∧ At S w x (.iface 124 (.pointer (some ⟨vx, 0, none⟩))) := by simp only [At]
theorem At_ret {S : Nat → Prop} {w : World} {p : Int} {a : List Ast} {v : Value} : At S w (.ret p a) v ↔ ∃ ad, v = .iface 186 (.pointer (some ⟨ad, 0, none⟩)) ∧ S ad ∧ ∃ va : Value, w.cell? ⟨ad, 0, none⟩ = some (.int .i64 p) ∧ w.cell? ⟨ad, 1, none⟩ = some va ∧ ((va = .slice none 0 0 ∧ a = []) ∨ ∃ sb so cap, va = .slice (some ⟨sb, so, none⟩) a.length cap ∧ a.length ≤ cap ∧ cap ≤ 9223372036854775807 ∧ AtR S w a sb so) := by simp only [At]
theorem At_branch {S : Nat → Prop} {w : World} {p : Int} {t : Int} {x : Option Ast} {v : Value} : At S w (.branch p t x) v ↔ ∃ ad, v = .iface 189 (.pointer (some ⟨ad, 0, none⟩)) ∧ S ad ∧ ∃ vx : Value, w.cell? ⟨ad, 0, none⟩ = some (.int .i64 p) ∧ w.cell? ⟨ad, 1, none⟩ = some (.int .i64 t) ∧ w.cell? ⟨ad, 2, none⟩ = some vx ∧ AtQ S w x vx := by simp only [At]
theorem At_label {S : Nat → Prop} {w : World} {x : Ast} {c : Int} {y : Ast} {v : Value} : At S w (.label x c y) v ↔ ∃ ad, v = .iface 165 (.pointer (some ⟨ad, 0, none⟩)) ∧ S ad ∧ ∃ vx : Nat, ∃ vy : Value, w.cell? ⟨ad, 0, none⟩ = some (.pointer (some ⟨vx, 0, none⟩)) ∧ At S w x (.iface 85 (.pointer (some ⟨vx, 0, none⟩))) ∧ w.cell? ⟨ad, 1, none⟩ = some (.int .i64 c) ∧ w.cell? ⟨ad, 2, none⟩ = some vy ∧ At S w y vy := by simp only [At]
theorem At_block {S : Nat → Prop} {w : World} {l : Int} {a : List Ast} {r : Int} {v : Value} : At S w (.block l a r) v ↔ ∃ ad, v = .iface 98 (.pointer (some ⟨ad, 0, none⟩)) ∧ S ad ∧ ∃ va : Value, w.cell? ⟨ad, 0, none⟩ = some (.int .i64 l) ∧ w.cell? ⟨ad, 1, none⟩ = some va ∧ ((va = .slice none 0 0 ∧ a = []) ∨ ∃ sb so cap, va = .slice (some ⟨sb, so, none⟩) a.length cap ∧ a.length ≤ cap ∧ cap ≤ 9223372036854775807 ∧ AtR S w a sb so) ∧ w.cell? ⟨ad, 2, none⟩ = some (.int .i64 r) := by simp only [At]
theorem At_ifS {S : Nat → Prop} {w : World} {p : Int} {x : Option Ast} {y : Ast} {z : Ast} {u : Option Ast} {v : Value} : At S w (.ifS p x y z u) v ↔ ∃ ad, v = .iface 196 (.pointer (some ⟨ad, 0, none⟩)) ∧ S ad ∧ ∃ vx : Value, ∃ vy : Value, ∃ vz : Nat, ∃ vu : Value, w.cell? ⟨ad, 0, none⟩ = some (.int .i64 p) ∧ w.cell? ⟨ad, 1, none⟩ = some vx ∧ AtO S w x vx ∧ w.cell? ⟨ad, 2, none⟩ = some vy ∧ At S w y vy ∧ w.cell? ⟨ad, 3, none⟩ = some (.pointer (some ⟨vz, 0, none⟩)) ∧ At S w z (.iface 98 (.pointer (some ⟨vz, 0, none⟩))) ∧ w.cell? ⟨ad, 4, none⟩ = some vu ∧ AtO S w u vu := by simp only [At]
theorem At_caseC {S : Nat → Prop} {w : World} {p : Int} {a : List Ast} {c : Int} {b : List Ast} {v : Value} : At S w (.caseC p a c b) v ↔ ∃ ad, v = .iface 199 (.pointer (some ⟨ad, 0, none⟩)) ∧ S ad ∧ ∃ va : Value, ∃ vb : Value, w.cell? ⟨ad, 0, none⟩ = some (.int .i64 p) ∧ w.cell? ⟨ad, 1, none⟩ = some va ∧ ((va = .slice none 0 0 ∧ a = []) ∨ ∃ sb so cap, va = .slice (some ⟨sb, so, none⟩) a.length cap ∧ a.length ≤ cap ∧ cap ≤ 9223372036854775807 ∧ AtR S w a sb so) ∧ w.cell? ⟨ad, 2, none⟩ = some (.int .i64 c) ∧ w.cell? ⟨ad, 3, none⟩ = some vb ∧ ((vb = .slice none 0 0 ∧ b = []) ∨ ∃ sb so cap, vb = .slice (some ⟨sb, so, none⟩) b.length cap ∧ b.length ≤ cap ∧ cap ≤ 9223372036854775807 ∧ AtR S w b sb so) := by simp only [At]
theorem At_switchS {S : Nat → Prop} {w : World} {p : Int} {x : Option Ast} {y : Option Ast} {z : Ast} {v : Value} : At S w (.switchS p x y z) v ↔ ∃ ad, v = .iface 202 (.pointer (some ⟨ad, 0, none⟩)) ∧ S ad ∧ ∃ vx : Value, ∃ vy : Value, ∃ vz : Nat, w.cell? ⟨ad, 0, none⟩ = some (.int .i64 p) ∧ w.cell? ⟨ad, 1, none⟩ = some vx ∧ AtO S w x vx ∧ w.cell? ⟨ad, 2, none⟩ = some vy ∧ AtO S w y vy ∧ w.cell? ⟨ad, 3, none⟩ = some (.pointer (some ⟨vz, 0, none⟩)) ∧ At S w z (.iface 98 (.pointer (some ⟨vz, 0, none⟩))) := by simp only [At]
theorem At_typesS {S : Nat → Prop} {w : World} {p : Int} {x : Option Ast} {y : Ast} {z : Ast} {v : Value} : At S w (.typesS p x y z) v ↔ ∃ ad, v = .iface 205 (.pointer (some ⟨ad, 0, none⟩)) ∧ S ad ∧ ∃ vx : Value, ∃ vy : Value, ∃ vz : Nat, w.cell? ⟨ad, 0, none⟩ = some (.int .i64 p) ∧ w.cell? ⟨ad, 1, none⟩ = some vx ∧ AtO S w x vx ∧ w.cell? ⟨ad, 2, none⟩ = some vy ∧ At S w y vy ∧ w.cell? ⟨ad, 3, none⟩ = some (.pointer (some ⟨vz, 0, none⟩)) ∧ At S w z (.iface 98 (.pointer (some ⟨vz, 0, none⟩))) := by simp only [At]
theorem At_commC {S : Nat → Prop} {w : World} {p : Int} {x : Option Ast} {c : Int} {b : List Ast} {v : Value} : At S w (.commC p x c b) v ↔ ∃ ad, v = .iface 208 (.pointer (some ⟨ad, 0, none⟩)) ∧ S ad ∧ ∃ vx : Value, ∃ vb : Value, w.cell? ⟨ad, 0, none⟩ = some (.int .i64 p) ∧ w.cell? ⟨ad, 1, none⟩ = some vx ∧ AtO S w x vx ∧ w.cell? ⟨ad, 2, none⟩ = some (.int .i64 c) ∧ w.cell? ⟨ad, 3, none⟩ = some vb ∧ ((vb = .slice none 0 0 ∧ b = []) ∨ ∃ sb so cap, vb = .slice (some ⟨sb, so, none⟩) b.length cap ∧ b.length ≤ cap ∧ cap ≤ 9223372036854775807 ∧ AtR S w b sb so) := by simp only [At]
theorem At_selectS {S : Nat → Prop} {w : World} {p : Int} {z : Ast} {v : Value} : At S w (.selectS p z) v ↔ ∃ ad, v = .iface 211 (.pointer (some ⟨ad, 0, none⟩)) ∧ S ad ∧ ∃ vz : Nat, w.cell? ⟨ad, 0, none⟩ = some (.int .i64 p) ∧ w.cell? ⟨ad, 1, none⟩ = some (.pointer (some ⟨vz, 0, none⟩)) ∧ At S w z (.iface 98 (.pointer (some ⟨vz, 0, none⟩))) := by simp only [At]
theorem At_forS {S : Nat → Prop} {w : World} {p : Int} {x : Option Ast} {y : Option Ast} {z : Option Ast} {u : Ast} {v : Value} : At S w (.forS p x y z u) v ↔ ∃ ad, v = .iface 214 (.pointer (some ⟨ad, 0, none⟩)) ∧ S ad ∧ ∃ vx : Value, ∃ vy : Value, ∃ vz : Value, ∃ vu : Nat, w.cell? ⟨ad, 0, none⟩ = some (.int .i64 p) ∧ w.cell? ⟨ad, 1, none⟩ = some vx ∧ AtO S w x vx ∧ w.cell? ⟨ad, 2, none⟩ = some vy ∧ AtO S w y vy ∧ w.cell? ⟨ad, 3, none⟩ = some vz ∧ AtO S w z vz ∧ w.cell? ⟨ad, 4, none⟩ = some (.pointer (some ⟨vu, 0, none⟩)) ∧ At S w u (.iface 98 (.pointer (some ⟨vu, 0, none⟩))) := by simp only [At]
theorem At_rangeS {S : Nat → Prop} {w : World} {p : Int} {x : Option Ast} {y : Option Ast} {q : Int} {t : Int} {r : Int} {z : Ast} {u : Ast} {v : Value} : At S w (.rangeS p x y q t r z u) v ↔ ∃ ad, v = .iface 217 (.pointer (some ⟨ad, 0, none⟩)) ∧ S ad ∧ ∃ vx : Value, ∃ vy : Value, ∃ vz : Value, ∃ vu : Nat, w.cell? ⟨ad, 0, none⟩ = some (.int .i64 p) ∧ w.cell? ⟨ad, 1, none⟩ = some vx ∧ AtO S w x vx ∧ w.cell? ⟨ad, 2, none⟩ = some vy ∧ AtO S w y vy ∧ w.cell? ⟨ad, 3, none⟩ = some (.int .i64 q) ∧ w.cell? ⟨ad, 4, none⟩ = some (.int .i64 t) ∧ w.cell? ⟨ad, 5, none⟩ = some (.int .i64 r) ∧ w.cell? ⟨ad, 6, none⟩ = some vz ∧ At S w z vz ∧ w.cell? ⟨ad, 7, none⟩ = some (.pointer (some ⟨vu, 0, none⟩)) ∧ At S w u (.iface 98 (.pointer (some ⟨vu, 0, none⟩))) := by simp only [At]

theorem AtO_some {S : Nat → Prop} {w : World} {a : Ast} {v : Value} : AtO S w (some a) v ↔ At S w a v := by simp only [AtO]
theorem AtO_none {S : Nat → Prop} {w : World} {v : Value} : AtO S w none v ↔ v = .nilIface := by simp only [AtO]
theorem AtQ_some {S : Nat → Prop} {w : World} {a : Ast} {v : Value} : AtQ S w (some a) v ↔ ∃ c, v = .pointer (some ⟨c, 0, none⟩) ∧ At S w a (.iface 85 (.pointer (some ⟨c, 0, none⟩))) := by simp only [AtQ]
theorem AtQ_none {S : Nat → Prop} {w : World} {v : Value} : AtQ S w none v ↔ v = .pointer none := by simp only [AtQ]
/-- A node lies behind a pointer of its type. -/
theorem At.ptr {S : Nat → Prop} {w : World} : ∀ {a : Ast} {v : Value}, At S w a v → ∃ b, v = .iface a.ptype (.pointer (some ⟨b, 0, none⟩)) ∧ S b := by
  intro a v h
  cases a <;> (simp only [At] at h; obtain ⟨b, hv, hb1, _⟩ := h; exact ⟨b, hv, hb1⟩)

theorem Ast.kid_size {a b : Ast} (h : b ∈ a.kids) : SizeOf.sizeOf b < SizeOf.sizeOf a := by
  have hl : ∀ (l : List Ast), b ∈ l → SizeOf.sizeOf b < SizeOf.sizeOf l := fun l h => List.sizeOf_lt_of_mem h
  have ho : ∀ (o : Option Ast), b ∈ o.toList → SizeOf.sizeOf b < SizeOf.sizeOf o := fun o h => by cases o <;> simp at h ⊢; subst h; omega
  cases a <;> simp only [Ast.kids, List.mem_append, List.mem_singleton, List.not_mem_nil] at h
  case paren => skip <;> first | (have := hl _ h; simp <;> omega) | (have := ho _ h; simp <;> omega) | (subst h; simp <;> omega)
  case unary => skip <;> first | (have := hl _ h; simp <;> omega) | (have := ho _ h; simp <;> omega) | (subst h; simp <;> omega)
  case binary => rcases h with h | h <;> first | (have := hl _ h; simp <;> omega) | (have := ho _ h; simp <;> omega) | (subst h; simp <;> omega)
  case sel => rcases h with h | h <;> first | (have := hl _ h; simp <;> omega) | (have := ho _ h; simp <;> omega) | (subst h; simp <;> omega)
  case index => rcases h with h | h <;> first | (have := hl _ h; simp <;> omega) | (have := ho _ h; simp <;> omega) | (subst h; simp <;> omega)
  case call => rcases h with h | h <;> first | (have := hl _ h; simp <;> omega) | (have := ho _ h; simp <;> omega) | (subst h; simp <;> omega)
  case asrt => rcases h with h | h <;> first | (have := hl _ h; simp <;> omega) | (have := ho _ h; simp <;> omega) | (subst h; simp <;> omega)
  case exprS => skip <;> first | (have := hl _ h; simp <;> omega) | (have := ho _ h; simp <;> omega) | (subst h; simp <;> omega)
  case send => rcases h with h | h <;> first | (have := hl _ h; simp <;> omega) | (have := ho _ h; simp <;> omega) | (subst h; simp <;> omega)
  case step => skip <;> first | (have := hl _ h; simp <;> omega) | (have := ho _ h; simp <;> omega) | (subst h; simp <;> omega)
  case assign => rcases h with h | h <;> first | (have := hl _ h; simp <;> omega) | (have := ho _ h; simp <;> omega) | (subst h; simp <;> omega)
  case goS => skip <;> first | (have := hl _ h; simp <;> omega) | (have := ho _ h; simp <;> omega) | (subst h; simp <;> omega)
  case deferS => skip <;> first | (have := hl _ h; simp <;> omega) | (have := ho _ h; simp <;> omega) | (subst h; simp <;> omega)
  case ret => skip <;> first | (have := hl _ h; simp <;> omega) | (have := ho _ h; simp <;> omega) | (subst h; simp <;> omega)
  case branch => skip <;> first | (have := hl _ h; simp <;> omega) | (have := ho _ h; simp <;> omega) | (subst h; simp <;> omega)
  case label => rcases h with h | h <;> first | (have := hl _ h; simp <;> omega) | (have := ho _ h; simp <;> omega) | (subst h; simp <;> omega)
  case block => skip <;> first | (have := hl _ h; simp <;> omega) | (have := ho _ h; simp <;> omega) | (subst h; simp <;> omega)
  case ifS => rcases h with ((h | h) | h) | h <;> first | (have := hl _ h; simp <;> omega) | (have := ho _ h; simp <;> omega) | (subst h; simp <;> omega)
  case caseC => rcases h with h | h <;> first | (have := hl _ h; simp <;> omega) | (have := ho _ h; simp <;> omega) | (subst h; simp <;> omega)
  case switchS => rcases h with (h | h) | h <;> first | (have := hl _ h; simp <;> omega) | (have := ho _ h; simp <;> omega) | (subst h; simp <;> omega)
  case typesS => rcases h with (h | h) | h <;> first | (have := hl _ h; simp <;> omega) | (have := ho _ h; simp <;> omega) | (subst h; simp <;> omega)
  case commC => rcases h with h | h <;> first | (have := hl _ h; simp <;> omega) | (have := ho _ h; simp <;> omega) | (subst h; simp <;> omega)
  case selectS => skip <;> first | (have := hl _ h; simp <;> omega) | (have := ho _ h; simp <;> omega) | (subst h; simp <;> omega)
  case forS => rcases h with ((h | h) | h) | h <;> first | (have := hl _ h; simp <;> omega) | (have := ho _ h; simp <;> omega) | (subst h; simp <;> omega)
  case rangeS => rcases h with ((h | h) | h) | h <;> first | (have := hl _ h; simp <;> omega) | (have := ho _ h; simp <;> omega) | (subst h; simp <;> omega)

#print axioms At.stay
end Go.Proofs.YtkkgfgllfbahlaaGreatFmt

namespace Go.Proofs.YtkkgfgllfbahlaaGreatFmt
open Go Go.RowKit

/-- The first place; 1 if none is left. -/
def hd (l : List Int) : Int := l.headD 1
abbrev BR := Ast × List Int

def mkLit (l : List Int) (t : ByteArray) : BR := (.lit (hd l) (wrap64 (hd l + t.size)) 5 t, l.tail)
def mkName (l : List Int) (t : ByteArray) : BR := (.ident (hd l) t, l.tail)
def mkParen (l : List Int) (r : BR) : BR := (.paren (hd l) r.1 (hd r.2), r.2.tail)
def mkUnary (l : List Int) (t : ByteArray) (r : BR) : BR := (.unary (hd l) (wordOf t) r.1, r.2)
def mkBinary (r : BR) (t : ByteArray) (q : BR) : BR := (.binary r.1 (hd r.2) (wordOf t) q.1, q.2)
def mkSel (r : BR) (t : ByteArray) : BR := (.sel r.1 (.ident (hd r.2.tail) t), r.2.tail.tail)
def mkIndex (r q : BR) : BR := (.index r.1 (hd r.2) q.1 (hd q.2), q.2.tail)
def mkCall (r : BR) (q : List Ast × List Int) : BR := (.call r.1 (hd r.2) q.1 0 (hd q.2), q.2.tail)
def mkAsrt (r : BR) (y : Option Ast) (l : List Int) : BR := (.asrt r.1 (hd r.2.tail) y (hd l), l.tail)

mutual
/-- An expression, and the places that are left. -/
def bE : Nd → List Int → BR
  | .mk k t ks, l =>
    if k.toList = [108, 105, 116, 101, 114, 97, 108] then mkLit l t
    else if k.toList = [112, 97, 114, 101, 110] then (match ks with | [x] => mkParen l (bE x l.tail) | _ => mkName l t)
    else if k.toList = [117, 110, 97, 114, 121] then (match ks with | [x] => mkUnary l t (bE x l.tail) | _ => mkName l t)
    else if k.toList = [98, 105, 110, 97, 114, 121] then (match ks with | [x, y] => mkBinary (bE x l) t (bE y (bE x l).2.tail) | _ => mkName l t)
    else if k.toList = [115, 101, 108, 101, 99, 116] then (match ks with | [x] => mkSel (bE x l) t | _ => mkName l t)
    else if k.toList = [105, 110, 100, 101, 120] then (match ks with | [x, y] => mkIndex (bE x l) (bE y (bE x l).2.tail) | _ => mkName l t)
    else if k.toList = [99, 97, 108, 108] then (match ks with | x :: r => mkCall (bE x l) (bEs true r (bE x l).2.tail) | _ => mkName l t)
    else if k.toList = [97, 115, 115, 101, 114, 116] then (match ks with
      | [x, y] => if miss y then mkAsrt (bE x l) none (bE x l).2.tail.tail.tail else mkAsrt (bE x l) (some (bE y (bE x l).2.tail.tail).1) (bE y (bE x l).2.tail.tail).2
      | _ => mkName l t)
    else mkName l t
/-- Expressions with commas between: a place each. -/
def bEs (first : Bool) : List Nd → List Int → List Ast × List Int
  | [], l => ([], l)
  | x :: r, l => ((bE x (if first then l else l.tail)).1 :: (bEs false r (bE x (if first then l else l.tail)).2).1, (bEs false r (bE x (if first then l else l.tail)).2).2)
end

abbrev BL := List Ast × List Int
abbrev BO := Option Ast × List Int
def mkExprS (r : BR) : BR := (.exprS r.1, r.2)
def mkSend (r q : BR) : BR := (.send r.1 (hd r.2) q.1, q.2)
def mkStep (r : BR) (t : ByteArray) : BR := (.step r.1 (hd r.2) (wordOf t), r.2.tail)
def mkAssign (r : BL) (t : ByteArray) (q : BL) : BR := (.assign r.1 (hd r.2) (wordOf t) q.1, q.2)
def mkGo (l : List Int) (r : BR) : BR := (.goS (hd l) r.1, r.2)
def mkDefer (l : List Int) (r : BR) : BR := (.deferS (hd l) r.1, r.2)
def mkRet (l : List Int) (r : BL) : BR := (.ret (hd l) r.1, r.2)
def mkBranch (l : List Int) (t : ByteArray) (x : Option ByteArray) : BR := match x with | none => (.branch (hd l) (wordOf t) none, l.tail) | some s => (.branch (hd l) (wordOf t) (some (.ident (hd l.tail) s)), l.tail.tail)
def mkLabel (l : List Int) (t : ByteArray) (r : BR) : BR := (.label (.ident (hd l) t) (hd l.tail) r.1, r.2)
def mkBlock (l : List Int) (r : BL) : BR := (.block (hd l) r.1 (hd r.2), r.2.tail)
def mkIf (l : List Int) (a : BO) (b c : BR) (d : BO) : BR := (.ifS (hd l) a.1 b.1 c.1 d.1, d.2)
def mkFor (l : List Int) (a b c : BO) (d : BR) : BR := (.forS (hd l) a.1 b.1 c.1 d.1, d.2)
def mkRange0 (l : List Int) (c d : BR) : BR := (.rangeS (hd l) none none 0 0 (hd l.tail) c.1 d.1, d.2)
def mkRange (l : List Int) (a : BR) (b : BO) (t : ByteArray) (c d : BR) : BR := (.rangeS (hd l) (some a.1) b.1 (hd b.2) (wordOf t) (hd b.2.tail) c.1 d.1, d.2)
def mkSwitch (l : List Int) (a b : BO) (c : BR) : BR := (.switchS (hd l) a.1 b.1 c.1, c.2)
def mkTypes (l : List Int) (a : BO) (b c : BR) : BR := (.typesS (hd l) a.1 b.1 c.1, c.2)
def mkSelect (l : List Int) (c : BR) : BR := (.selectS (hd l) c.1, c.2)
def mkComm (l : List Int) (h : BO) (b : BL) : BR := (.commC (hd l) h.1 (hd h.2) b.1, b.2)
def mkCase (l : List Int) (h b : BL) : BR := (.caseC (hd l) h.1 (hd h.2) b.1, b.2)
def optB (n : Nd) (l : List Int) (r : BR) : BO := if miss n then (none, l) else (some r.1, r.2)
/-- An expression that may not be there. -/
def bEO (n : Nd) (l : List Int) : BO := optB n l (bE n l)
/-- With a place of its own ahead, if it is there. -/
def bEC (n : Nd) (l : List Int) : BO := optB n l (bE n l.tail)

mutual
/-- A statement, and the places that are left. -/
def bS : Nd → List Int → BR
  | .mk k t ks, l =>
    if k.toList = [101, 120, 112, 114, 101, 115, 115, 105, 111, 110] then (match ks with | [x] => mkExprS (bE x l) | _ => mkName l t)
    else if k.toList = [115, 101, 110, 100] then (match ks with | [x, y] => mkSend (bE x l) (bE y (bE x l).2.tail) | _ => mkName l t)
    else if k.toList = [115, 116, 101, 112] then (match ks with | [x] => mkStep (bE x l) t | _ => mkName l t)
    else if k.toList = [97, 115, 115, 105, 103, 110] then (match ks with | [x, y] => mkAssign (bEs true x.kids l) t (bEs true y.kids (bEs true x.kids l).2.tail) | _ => mkName l t)
    else if k.toList = [103, 111] then (match ks with | [x] => mkGo l (bE x l.tail) | _ => mkName l t)
    else if k.toList = [100, 101, 102, 101, 114] then (match ks with | [x] => mkDefer l (bE x l.tail) | _ => mkName l t)
    else if k.toList = [114, 101, 116, 117, 114, 110] then mkRet l (bEs true ks l.tail)
    else if k.toList = [98, 114, 97, 110, 99, 104] then (match ks with | [x] => mkBranch l t (some x.text) | _ => mkBranch l t none)
    else if k.toList = [108, 97, 98, 101, 108] then (match ks with | [x] => mkLabel l t (bS x l.tail.tail) | _ => mkName l t)
    else if k.toList = [98, 108, 111, 99, 107] then mkBlock l (bSs ks l.tail)
    else if k.toList = [105, 102] then (match ks with
      | [a, b, c, d] => mkIf l (optB a l.tail (bS a l.tail)) (bE b (optB a l.tail (bS a l.tail)).2) (bB c (bE b (optB a l.tail (bS a l.tail)).2).2)
          (optB d (bB c (bE b (optB a l.tail (bS a l.tail)).2).2).2 (bS d (bB c (bE b (optB a l.tail (bS a l.tail)).2).2).2.tail))
      | _ => mkName l t)
    else if k.toList = [102, 111, 114] then (match ks with
      | [a, b, c, d] => mkFor l (optB a l.tail (bS a l.tail)) (bEO b (optB a l.tail (bS a l.tail)).2)
          (optB c (bEO b (optB a l.tail (bS a l.tail)).2).2 (bS c (bEO b (optB a l.tail (bS a l.tail)).2).2))
          (bB d (optB c (bEO b (optB a l.tail (bS a l.tail)).2).2 (bS c (bEO b (optB a l.tail (bS a l.tail)).2).2)).2)
      | _ => mkName l t)
    else if k.toList = [114, 97, 110, 103, 101] then (match ks with
      | [a, b, c, d] => if t.toList = [] then mkRange0 l (bE c l.tail.tail) (bB d (bE c l.tail.tail).2)
          else mkRange l (bE a l.tail) (bEC b (bE a l.tail).2) t (bE c (bEC b (bE a l.tail).2).2.tail.tail) (bB d (bE c (bEC b (bE a l.tail).2).2.tail.tail).2)
      | _ => mkName l t)
    else if k.toList = [115, 119, 105, 116, 99, 104] then (match ks with
      | [a, b, c] => mkSwitch l (optB a l.tail (bS a l.tail)) (bEO b (optB a l.tail (bS a l.tail)).2) (bC false c (bEO b (optB a l.tail (bS a l.tail)).2).2)
      | _ => mkName l t)
    else if k.toList = [116, 121, 112, 101, 115] then (match ks with
      | [a, b, c] => mkTypes l (optB a l.tail (bS a l.tail)) (bS b (optB a l.tail (bS a l.tail)).2) (bC false c (bS b (optB a l.tail (bS a l.tail)).2).2)
      | _ => mkName l t)
    else if k.toList = [115, 101, 108, 101, 99, 116, 115] then (match ks with | [a] => mkSelect l (bC true a l.tail) | _ => mkName l t)
    else mkName l t
def bSs : List Nd → List Int → BL
  | [], l => ([], l)
  | x :: r, l => ((bS x l).1 :: (bSs r (bS x l).2).1, (bSs r (bS x l).2).2)
/-- A block. -/
def bB : Nd → List Int → BR
  | .mk _ _ ks, l => mkBlock l (bSs ks l.tail)
/-- A block of clauses. -/
def bC (comm : Bool) : Nd → List Int → BR
  | .mk _ _ ks, l => mkBlock l (bCs comm ks l.tail)
def bCs (comm : Bool) : List Nd → List Int → BL
  | [], l => ([], l)
  | x :: r, l => ((bCl comm x l).1 :: (bCs comm r (bCl comm x l).2).1, (bCs comm r (bCl comm x l).2).2)
def bCl (comm : Bool) : Nd → List Int → BR
  | .mk _ t ks, l => match ks with
    | h :: b => if comm then mkComm l (optB h l.tail (bS h l.tail)) (bSs b (optB h l.tail (bS h l.tail)).2.tail)
        else mkCase l (bEs true h.kids l.tail) (bSs b (bEs true h.kids l.tail).2.tail)
    | [] => mkName l t
end

mutual
/-- A tree with those below it, in the order of Walk. -/
def xtN : Nd → XT
  | .mk k t ks => .mk k ((if k.toList = [108, 97, 98, 101, 108] then [.mk ⟨#[110, 97, 109, 101]⟩ []] else []) ++ xtB ks ++ (if k.toList = [115, 101, 108, 101, 99, 116] then [.mk ⟨#[110, 97, 109, 101]⟩ []] else []))
/-- Parts that are not there are left out, lists laid open. -/
def xtB : List Nd → List XT
  | [] => []
  | k :: ks => xtF k ++ xtB ks
def xtF : Nd → List XT
  | .mk k t ks => if k.toList = [108, 105, 115, 116] then xtK ks else if k.toList = [110, 111, 110, 101] then [] else [xtN (.mk k t ks)]
def xtK : List Nd → List XT
  | [] => []
  | k :: ks => xtN k :: xtK ks
end
end Go.Proofs.YtkkgfgllfbahlaaGreatFmt
