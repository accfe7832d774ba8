/- All blocks but one lie as they lay (But).
Token.String, word. -/
import Derived.Test.YtkkgfgllfbahlaaGreatFmtSh
import Derived.BigQuiet
import Derived.Deep.QuietTactic
import Derived.Test.YtkkgfgllfbahlaaGreatFmtTree
set_option linter.unusedVariables false
set_option linter.unusedSimpArgs false
namespace Go.Proofs.YtkkgfgllfbahlaaGreatFmt
open Go Go.RowKit

/-- All blocks but one lie as they lay. -/
def But (lb : Nat) (w w' : World) : Prop := w.grownBy w' (some lb)
theorem But.refl (lb : Nat) (w : World) : But lb w w := ⟨rfl, rfl, rfl, Nat.le_refl _, fun _ _ _ => rfl⟩
theorem But.alloc {lb : Nat} {w w1 : World} (h : But lb w w1) (o : Obj) : But lb w (w1.alloc o) :=
  ⟨h.os, h.tape, h.output, Nat.le_trans h.size (by simp), fun k hk hne => (Below.heap_alloc w1 o k (Nat.lt_of_lt_of_le hk h.size)).trans (h.block k hk hne)⟩
theorem But.drew {lb : Nat} {w w1 : World} (h : But lb w w1) : But lb w w1.drew := ⟨h.os, h.tape, h.output, h.size, h.block⟩
theorem But.drewN {lb : Nat} {w w1 : World} (h : But lb w w1) (n : Nat) : But lb w (w1.drewN n) := ⟨h.os, h.tape, h.output, h.size, h.block⟩
theorem But.trans {lb : Nat} {a b c : World} (h : But lb a b) (k : But lb b c) : But lb a c :=
  ⟨k.os.trans h.os, k.tape.trans h.tape, k.output.trans h.output, Nat.le_trans h.size k.size, fun i hi hne => (k.block i (Nat.lt_of_lt_of_le hi h.size) hne).trans (h.block i hi hne)⟩
theorem But.set {lb : Nat} {w w1 : World} (h : But lb w w1) (o : Nat) (v : Value) : But lb w (w1.setCell ⟨lb, o, none⟩ v) :=
  ⟨h.os, h.tape, h.output, Nat.le_trans h.size (by simp [World.setCell]), fun k hk hne => (Below.heap_setCell w1 ⟨lb, o, none⟩ v k (fun e => hne (by rw [e]))).trans (h.block k hk hne)⟩
theorem But.setNew {lb : Nat} {w w1 : World} (h : But lb w w1) {p : Addr} (hp : w.heap.size ≤ p.block) (v : Value) : But lb w (w1.setCell p v) :=
  ⟨h.os, h.tape, h.output, Nat.le_trans h.size (by simp [World.setCell]), fun k hk hne => (Below.heap_setCell w1 p v k (by omega)).trans (h.block k hk hne)⟩
theorem But.le {lb : Nat} {w w1 : World} (h : But lb w w1) : w.heap.size ≤ w1.heap.size := h.size
theorem But.same {lb N : Nat} {w w1 : World} (h : But lb w w1) (hN : N ≤ w.heap.size) (hl : N ≤ lb) : Same N w w1 := fun k hk => h.block k (Nat.lt_of_lt_of_le hk hN) (fun e => by injection e; omega)
theorem But.cell {lb : Nat} {w w1 : World} (h : But lb w w1) {N : Nat} (hN : w.heap.size = N) : ∀ b o, b < N → b ≠ lb → w1.cell? ⟨b, o, none⟩ = w.cell? ⟨b, o, none⟩ := fun b o hb hne =>
  World.cell?_of_block (h.block b (by omega) (fun e => hne (by injection e)))
theorem But.bel {lb : Nat} {w w1 : World} (h : But lb w w1) {w0 : World} (h0 : Bel w0 w) (hl : w0.heap.size ≤ lb) : Bel w0 w1 :=
  ⟨h.os.trans h0.os, h.tape.trans h0.tape, h.output.trans h0.output, Nat.le_trans h0.size h.size, fun k hk => (h.block k (Nat.lt_of_lt_of_le hk h0.size) (fun e => by injection e; omega)).trans (h0.block k hk)⟩
theorem But.of_bel {lb : Nat} {w w1 : World} (h : Bel w w1) : But lb w w1 := ⟨h.os, h.tape, h.output, h.size, fun k hk _ => h.block k hk⟩

end Go.Proofs.YtkkgfgllfbahlaaGreatFmt

namespace Go.Proofs.YtkkgfgllfbahlaaGreatFmt
open Go Go.RowKit

def tokL : List (List UInt8) := [[73, 76, 76, 69, 71, 65, 76], [69, 79, 70], [67, 79, 77, 77, 69, 78, 84], [], [73, 68, 69, 78, 84], [73, 78, 84], [70, 76, 79, 65, 84], [73, 77, 65, 71], [67, 72, 65, 82], [83, 84, 82, 73, 78, 71], [], [], [43], [45], [42], [47], [37], [38], [124], [94], [60, 60], [62, 62], [38, 94], [43, 61], [45, 61], [42, 61], [47, 61], [37, 61], [38, 61], [124, 61], [94, 61], [60, 60, 61], [62, 62, 61], [38, 94, 61], [38, 38], [124, 124], [60, 45], [43, 43], [45, 45], [61, 61], [60], [62], [61], [33], [33, 61], [60, 61], [62, 61], [58, 61], [46, 46, 46], [40], [91], [123], [44], [46], [41], [93], [125], [59], [58], [], [], [98, 114, 101, 97, 107], [99, 97, 115, 101], [99, 104, 97, 110], [99, 111, 110, 115, 116], [99, 111, 110, 116, 105, 110, 117, 101], [100, 101, 102, 97, 117, 108, 116], [100, 101, 102, 101, 114], [101, 108, 115, 101], [102, 97, 108, 108, 116, 104, 114, 111, 117, 103, 104], [102, 111, 114], [102, 117, 110, 99], [103, 111], [103, 111, 116, 111], [105, 102], [105, 109, 112, 111, 114, 116], [105, 110, 116, 101, 114, 102, 97, 99, 101], [109, 97, 112], [112, 97, 99, 107, 97, 103, 101], [114, 97, 110, 103, 101], [114, 101, 116, 117, 114, 110], [115, 101, 108, 101, 99, 116], [115, 116, 114, 117, 99, 116], [115, 119, 105, 116, 99, 104], [116, 121, 112, 101], [118, 97, 114], [], [], [126]]
def tokC (t : Nat) : ByteArray := ⟨(tokL.getD t []).toArray⟩
/-- What Token.String returns. -/
def tokB (t : Nat) : List UInt8 := if tokL.getD t [] = [] then [116, 111, 107, 101, 110, 40] ++ (if t < 10 then [48 + t.toUInt8] else [48 + (t / 10).toUInt8, 48 + (t % 10).toUInt8]) ++ [41] else tokL.getD t []
def tokS (t : Nat) : ByteArray := ⟨(tokB t).toArray⟩
/-- The table of the tokens' texts lies in memory. -/
def TokTab (w : World) : Prop := ∀ t, t < 89 → w.cell? ⟨0, t, none⟩ = some (.string (tokC t))
theorem TokTab.later {w w1 : World} (h : Bel w w1) (k : TokTab w) : TokTab w1 := fun t ht => (h.cell 0 t (World.block_lt_of_cell? w ⟨0, t, none⟩ (k t ht))).trans (k t ht)

set_option maxRecDepth 100000 in
theorem small_3 (w : World) : Calls Tryz.prog 93 #[.int .i64 3] w fun e w' => e = .returned (.string ⟨#[51]⟩) ∧ w = w' := by
  go_enter Tryz.func93, Tryz.ntmps93
  go_wp2_with fail
  go_ret
  exact ⟨by kernel_rfl, rfl⟩
theorem itoa_3 (w : World) : Calls Tryz.prog 89 #[.int .i64 3] w fun e w' => e = .returned (.string ⟨#[51]⟩) ∧ w = w' := by
  have H := hide (small_3 w)
  have H1 : Calls Tryz.prog 92 #[.int .i64 3, .int .i64 10] w fun e w' => e = .returned (.string ⟨#[51]⟩) ∧ w = w' := by
    go_enter Tryz.func92, Tryz.ntmps92
    go_wp2_with fail
    refine H.out.mono ?_
    rintro e w' ⟨rfl, rfl⟩
    go_wp2_with fail
    go_ret
    exact ⟨rfl, rfl⟩
  have H1 := hide H1
  have H2 : Calls Tryz.prog 91 #[.int .i64 3] w fun e w' => e = .returned (.string ⟨#[51]⟩) ∧ w = w' := by
    go_enter Tryz.func91, Tryz.ntmps91
    go_wp2_with fail
    refine H1.out.mono ?_
    rintro e w' ⟨rfl, rfl⟩
    go_wp2_with fail
    go_ret
    exact ⟨rfl, rfl⟩
  have H2 := hide H2
  go_enter Tryz.func89, Tryz.ntmps89
  go_wp2_with fail
  refine H2.out.mono ?_
  rintro e w' ⟨rfl, rfl⟩
  go_wp2_with fail
  go_ret
  exact ⟨rfl, rfl⟩
theorem tok_3 (w : World) (hc : w.cell? ⟨0, 3, none⟩ = some (.string ⟨#[]⟩)) : Calls Tryz.prog 79 #[.int .i64 3] w fun e w' => e = .returned (.string (tokS 3)) ∧ w = w' := by
  have H := hide (itoa_3 w)
  go_enter Tryz.func79, Tryz.ntmps79
  go_wp2_with fail
  refine H.out.mono ?_
  rintro e w' ⟨rfl, rfl⟩
  go_wp2_with fail
  go_ret
  exact ⟨by kernel_rfl, rfl⟩

set_option maxRecDepth 100000 in
theorem small_10 (w : World) : Calls Tryz.prog 93 #[.int .i64 10] w fun e w' => e = .returned (.string ⟨#[49, 48]⟩) ∧ w = w' := by
  go_enter Tryz.func93, Tryz.ntmps93
  go_wp2_with fail
  go_ret
  exact ⟨by kernel_rfl, rfl⟩
theorem itoa_10 (w : World) : Calls Tryz.prog 89 #[.int .i64 10] w fun e w' => e = .returned (.string ⟨#[49, 48]⟩) ∧ w = w' := by
  have H := hide (small_10 w)
  have H1 : Calls Tryz.prog 92 #[.int .i64 10, .int .i64 10] w fun e w' => e = .returned (.string ⟨#[49, 48]⟩) ∧ w = w' := by
    go_enter Tryz.func92, Tryz.ntmps92
    go_wp2_with fail
    refine H.out.mono ?_
    rintro e w' ⟨rfl, rfl⟩
    go_wp2_with fail
    go_ret
    exact ⟨rfl, rfl⟩
  have H1 := hide H1
  have H2 : Calls Tryz.prog 91 #[.int .i64 10] w fun e w' => e = .returned (.string ⟨#[49, 48]⟩) ∧ w = w' := by
    go_enter Tryz.func91, Tryz.ntmps91
    go_wp2_with fail
    refine H1.out.mono ?_
    rintro e w' ⟨rfl, rfl⟩
    go_wp2_with fail
    go_ret
    exact ⟨rfl, rfl⟩
  have H2 := hide H2
  go_enter Tryz.func89, Tryz.ntmps89
  go_wp2_with fail
  refine H2.out.mono ?_
  rintro e w' ⟨rfl, rfl⟩
  go_wp2_with fail
  go_ret
  exact ⟨rfl, rfl⟩
theorem tok_10 (w : World) (hc : w.cell? ⟨0, 10, none⟩ = some (.string ⟨#[]⟩)) : Calls Tryz.prog 79 #[.int .i64 10] w fun e w' => e = .returned (.string (tokS 10)) ∧ w = w' := by
  have H := hide (itoa_10 w)
  go_enter Tryz.func79, Tryz.ntmps79
  go_wp2_with fail
  refine H.out.mono ?_
  rintro e w' ⟨rfl, rfl⟩
  go_wp2_with fail
  go_ret
  exact ⟨by kernel_rfl, rfl⟩

set_option maxRecDepth 100000 in
theorem small_11 (w : World) : Calls Tryz.prog 93 #[.int .i64 11] w fun e w' => e = .returned (.string ⟨#[49, 49]⟩) ∧ w = w' := by
  go_enter Tryz.func93, Tryz.ntmps93
  go_wp2_with fail
  go_ret
  exact ⟨by kernel_rfl, rfl⟩
theorem itoa_11 (w : World) : Calls Tryz.prog 89 #[.int .i64 11] w fun e w' => e = .returned (.string ⟨#[49, 49]⟩) ∧ w = w' := by
  have H := hide (small_11 w)
  have H1 : Calls Tryz.prog 92 #[.int .i64 11, .int .i64 10] w fun e w' => e = .returned (.string ⟨#[49, 49]⟩) ∧ w = w' := by
    go_enter Tryz.func92, Tryz.ntmps92
    go_wp2_with fail
    refine H.out.mono ?_
    rintro e w' ⟨rfl, rfl⟩
    go_wp2_with fail
    go_ret
    exact ⟨rfl, rfl⟩
  have H1 := hide H1
  have H2 : Calls Tryz.prog 91 #[.int .i64 11] w fun e w' => e = .returned (.string ⟨#[49, 49]⟩) ∧ w = w' := by
    go_enter Tryz.func91, Tryz.ntmps91
    go_wp2_with fail
    refine H1.out.mono ?_
    rintro e w' ⟨rfl, rfl⟩
    go_wp2_with fail
    go_ret
    exact ⟨rfl, rfl⟩
  have H2 := hide H2
  go_enter Tryz.func89, Tryz.ntmps89
  go_wp2_with fail
  refine H2.out.mono ?_
  rintro e w' ⟨rfl, rfl⟩
  go_wp2_with fail
  go_ret
  exact ⟨rfl, rfl⟩
theorem tok_11 (w : World) (hc : w.cell? ⟨0, 11, none⟩ = some (.string ⟨#[]⟩)) : Calls Tryz.prog 79 #[.int .i64 11] w fun e w' => e = .returned (.string (tokS 11)) ∧ w = w' := by
  have H := hide (itoa_11 w)
  go_enter Tryz.func79, Tryz.ntmps79
  go_wp2_with fail
  refine H.out.mono ?_
  rintro e w' ⟨rfl, rfl⟩
  go_wp2_with fail
  go_ret
  exact ⟨by kernel_rfl, rfl⟩

set_option maxRecDepth 100000 in
theorem small_59 (w : World) : Calls Tryz.prog 93 #[.int .i64 59] w fun e w' => e = .returned (.string ⟨#[53, 57]⟩) ∧ w = w' := by
  go_enter Tryz.func93, Tryz.ntmps93
  go_wp2_with fail
  go_ret
  exact ⟨by kernel_rfl, rfl⟩
theorem itoa_59 (w : World) : Calls Tryz.prog 89 #[.int .i64 59] w fun e w' => e = .returned (.string ⟨#[53, 57]⟩) ∧ w = w' := by
  have H := hide (small_59 w)
  have H1 : Calls Tryz.prog 92 #[.int .i64 59, .int .i64 10] w fun e w' => e = .returned (.string ⟨#[53, 57]⟩) ∧ w = w' := by
    go_enter Tryz.func92, Tryz.ntmps92
    go_wp2_with fail
    refine H.out.mono ?_
    rintro e w' ⟨rfl, rfl⟩
    go_wp2_with fail
    go_ret
    exact ⟨rfl, rfl⟩
  have H1 := hide H1
  have H2 : Calls Tryz.prog 91 #[.int .i64 59] w fun e w' => e = .returned (.string ⟨#[53, 57]⟩) ∧ w = w' := by
    go_enter Tryz.func91, Tryz.ntmps91
    go_wp2_with fail
    refine H1.out.mono ?_
    rintro e w' ⟨rfl, rfl⟩
    go_wp2_with fail
    go_ret
    exact ⟨rfl, rfl⟩
  have H2 := hide H2
  go_enter Tryz.func89, Tryz.ntmps89
  go_wp2_with fail
  refine H2.out.mono ?_
  rintro e w' ⟨rfl, rfl⟩
  go_wp2_with fail
  go_ret
  exact ⟨rfl, rfl⟩
theorem tok_59 (w : World) (hc : w.cell? ⟨0, 59, none⟩ = some (.string ⟨#[]⟩)) : Calls Tryz.prog 79 #[.int .i64 59] w fun e w' => e = .returned (.string (tokS 59)) ∧ w = w' := by
  have H := hide (itoa_59 w)
  go_enter Tryz.func79, Tryz.ntmps79
  go_wp2_with fail
  refine H.out.mono ?_
  rintro e w' ⟨rfl, rfl⟩
  go_wp2_with fail
  go_ret
  exact ⟨by kernel_rfl, rfl⟩

set_option maxRecDepth 100000 in
theorem small_60 (w : World) : Calls Tryz.prog 93 #[.int .i64 60] w fun e w' => e = .returned (.string ⟨#[54, 48]⟩) ∧ w = w' := by
  go_enter Tryz.func93, Tryz.ntmps93
  go_wp2_with fail
  go_ret
  exact ⟨by kernel_rfl, rfl⟩
theorem itoa_60 (w : World) : Calls Tryz.prog 89 #[.int .i64 60] w fun e w' => e = .returned (.string ⟨#[54, 48]⟩) ∧ w = w' := by
  have H := hide (small_60 w)
  have H1 : Calls Tryz.prog 92 #[.int .i64 60, .int .i64 10] w fun e w' => e = .returned (.string ⟨#[54, 48]⟩) ∧ w = w' := by
    go_enter Tryz.func92, Tryz.ntmps92
    go_wp2_with fail
    refine H.out.mono ?_
    rintro e w' ⟨rfl, rfl⟩
    go_wp2_with fail
    go_ret
    exact ⟨rfl, rfl⟩
  have H1 := hide H1
  have H2 : Calls Tryz.prog 91 #[.int .i64 60] w fun e w' => e = .returned (.string ⟨#[54, 48]⟩) ∧ w = w' := by
    go_enter Tryz.func91, Tryz.ntmps91
    go_wp2_with fail
    refine H1.out.mono ?_
    rintro e w' ⟨rfl, rfl⟩
    go_wp2_with fail
    go_ret
    exact ⟨rfl, rfl⟩
  have H2 := hide H2
  go_enter Tryz.func89, Tryz.ntmps89
  go_wp2_with fail
  refine H2.out.mono ?_
  rintro e w' ⟨rfl, rfl⟩
  go_wp2_with fail
  go_ret
  exact ⟨rfl, rfl⟩
theorem tok_60 (w : World) (hc : w.cell? ⟨0, 60, none⟩ = some (.string ⟨#[]⟩)) : Calls Tryz.prog 79 #[.int .i64 60] w fun e w' => e = .returned (.string (tokS 60)) ∧ w = w' := by
  have H := hide (itoa_60 w)
  go_enter Tryz.func79, Tryz.ntmps79
  go_wp2_with fail
  refine H.out.mono ?_
  rintro e w' ⟨rfl, rfl⟩
  go_wp2_with fail
  go_ret
  exact ⟨by kernel_rfl, rfl⟩

set_option maxRecDepth 100000 in
theorem small_86 (w : World) : Calls Tryz.prog 93 #[.int .i64 86] w fun e w' => e = .returned (.string ⟨#[56, 54]⟩) ∧ w = w' := by
  go_enter Tryz.func93, Tryz.ntmps93
  go_wp2_with fail
  go_ret
  exact ⟨by kernel_rfl, rfl⟩
theorem itoa_86 (w : World) : Calls Tryz.prog 89 #[.int .i64 86] w fun e w' => e = .returned (.string ⟨#[56, 54]⟩) ∧ w = w' := by
  have H := hide (small_86 w)
  have H1 : Calls Tryz.prog 92 #[.int .i64 86, .int .i64 10] w fun e w' => e = .returned (.string ⟨#[56, 54]⟩) ∧ w = w' := by
    go_enter Tryz.func92, Tryz.ntmps92
    go_wp2_with fail
    refine H.out.mono ?_
    rintro e w' ⟨rfl, rfl⟩
    go_wp2_with fail
    go_ret
    exact ⟨rfl, rfl⟩
  have H1 := hide H1
  have H2 : Calls Tryz.prog 91 #[.int .i64 86] w fun e w' => e = .returned (.string ⟨#[56, 54]⟩) ∧ w = w' := by
    go_enter Tryz.func91, Tryz.ntmps91
    go_wp2_with fail
    refine H1.out.mono ?_
    rintro e w' ⟨rfl, rfl⟩
    go_wp2_with fail
    go_ret
    exact ⟨rfl, rfl⟩
  have H2 := hide H2
  go_enter Tryz.func89, Tryz.ntmps89
  go_wp2_with fail
  refine H2.out.mono ?_
  rintro e w' ⟨rfl, rfl⟩
  go_wp2_with fail
  go_ret
  exact ⟨rfl, rfl⟩
theorem tok_86 (w : World) (hc : w.cell? ⟨0, 86, none⟩ = some (.string ⟨#[]⟩)) : Calls Tryz.prog 79 #[.int .i64 86] w fun e w' => e = .returned (.string (tokS 86)) ∧ w = w' := by
  have H := hide (itoa_86 w)
  go_enter Tryz.func79, Tryz.ntmps79
  go_wp2_with fail
  refine H.out.mono ?_
  rintro e w' ⟨rfl, rfl⟩
  go_wp2_with fail
  go_ret
  exact ⟨by kernel_rfl, rfl⟩

set_option maxRecDepth 100000 in
theorem small_87 (w : World) : Calls Tryz.prog 93 #[.int .i64 87] w fun e w' => e = .returned (.string ⟨#[56, 55]⟩) ∧ w = w' := by
  go_enter Tryz.func93, Tryz.ntmps93
  go_wp2_with fail
  go_ret
  exact ⟨by kernel_rfl, rfl⟩
theorem itoa_87 (w : World) : Calls Tryz.prog 89 #[.int .i64 87] w fun e w' => e = .returned (.string ⟨#[56, 55]⟩) ∧ w = w' := by
  have H := hide (small_87 w)
  have H1 : Calls Tryz.prog 92 #[.int .i64 87, .int .i64 10] w fun e w' => e = .returned (.string ⟨#[56, 55]⟩) ∧ w = w' := by
    go_enter Tryz.func92, Tryz.ntmps92
    go_wp2_with fail
    refine H.out.mono ?_
    rintro e w' ⟨rfl, rfl⟩
    go_wp2_with fail
    go_ret
    exact ⟨rfl, rfl⟩
  have H1 := hide H1
  have H2 : Calls Tryz.prog 91 #[.int .i64 87] w fun e w' => e = .returned (.string ⟨#[56, 55]⟩) ∧ w = w' := by
    go_enter Tryz.func91, Tryz.ntmps91
    go_wp2_with fail
    refine H1.out.mono ?_
    rintro e w' ⟨rfl, rfl⟩
    go_wp2_with fail
    go_ret
    exact ⟨rfl, rfl⟩
  have H2 := hide H2
  go_enter Tryz.func89, Tryz.ntmps89
  go_wp2_with fail
  refine H2.out.mono ?_
  rintro e w' ⟨rfl, rfl⟩
  go_wp2_with fail
  go_ret
  exact ⟨rfl, rfl⟩
theorem tok_87 (w : World) (hc : w.cell? ⟨0, 87, none⟩ = some (.string ⟨#[]⟩)) : Calls Tryz.prog 79 #[.int .i64 87] w fun e w' => e = .returned (.string (tokS 87)) ∧ w = w' := by
  have H := hide (itoa_87 w)
  go_enter Tryz.func79, Tryz.ntmps79
  go_wp2_with fail
  refine H.out.mono ?_
  rintro e w' ⟨rfl, rfl⟩
  go_wp2_with fail
  go_ret
  exact ⟨by kernel_rfl, rfl⟩

theorem tok_full (w : World) (t : Nat) (ht : t < 89) (s : ByteArray) (hs : (s.toList == []) = false) (hc : w.cell? ⟨0, t, none⟩ = some (.string s)) : Calls Tryz.prog 79 #[.int .i64 t] w fun e w' => e = .returned (.string s) ∧ w = w' := by
  have h0 : (0 : Int) ≤ t := by omega
  have h1 : (t : Int) < 89 := by omega
  go_enter Tryz.func79, Tryz.ntmps79
  go_wp2_with fail
  go_ret
  exact ⟨rfl, rfl⟩

theorem tok_any (w : World) (t : Nat) (ht : t < 89) (hT : TokTab w) : Calls Tryz.prog 79 #[.int .i64 t] w fun e w' => e = .returned (.string (tokS t)) ∧ w = w' := by
  by_cases h : tokL.getD t [] = []
  · have hg : t = 3 ∨ t = 10 ∨ t = 11 ∨ t = 59 ∨ t = 60 ∨ t = 86 ∨ t = 87 := by
      have : ∀ i : Fin 89, tokL.getD i.val [] = [] → i.val = 3 ∨ i.val = 10 ∨ i.val = 11 ∨ i.val = 59 ∨ i.val = 60 ∨ i.val = 86 ∨ i.val = 87 := by decide
      exact this ⟨t, ht⟩ h
    have hc := hT t ht
    unfold tokC at hc
    rw [h] at hc
    rcases hg with rfl | rfl | rfl | rfl | rfl | rfl | rfl
    · exact tok_3 w hc
    · exact tok_10 w hc
    · exact tok_11 w hc
    · exact tok_59 w hc
    · exact tok_60 w hc
    · exact tok_86 w hc
    · exact tok_87 w hc
  · have e : tokS t = tokC t := by unfold tokS tokB tokC; rw [if_neg h]
    rw [e]
    exact tok_full w t ht _ (by unfold tokC; rw [toList_lit]; exact beq_eq_false_iff_ne.2 h) (hT t ht)

/-- What word looks for: the first token from t on, k of them to go. -/
def wordFrom (s : List UInt8) : Nat → Nat → Int
  | 0, _ => 0
  | k + 1, t => if tokB t = s then t else wordFrom s k (t + 1)
def wordOf (s : ByteArray) : Int := wordFrom s.toList 76 12
def WordRel (w : World) (s : ByteArray) (c : Value) (wr : World) : Prop := ∃ t : Nat, 12 ≤ t ∧ t ≤ 88 ∧ c = .int .i64 t ∧ wordOf s = wordFrom s.toList (88 - t) t ∧ w = wr

theorem word_any (w : World) (s : ByteArray) (hT : TokTab w) : Calls Tryz.prog 71 #[.string s] w fun e w' => e = .returned (.int .i64 (wordOf s)) ∧ w = w' := by
  have HT := hide hT
  clear hT
  go_enter Tryz.func71, Tryz.ntmps71
  go_wp2_with fail
  go_loopw [3] (fun c wr => WordRel w s c wr) (fun c _ => 88 - (intOf c).toNat)
  case atStart => exact ⟨12, by omega, by omega, rfl, rfl, rfl⟩
  case round =>
    obtain ⟨t, h12, h88, rfl, hw, rfl⟩ := hrel
    have HW := hide hw
    clear hw
    by_cases hlt : t < 88
    · have HC := hide (tok_any w t (by omega) HT.out)
      by_cases hq : ((tokS t).toList == s.toList) = true
      · go_wp2_with fail
        refine HC.out.mono ?_
        rintro e w' ⟨rfl, rfl⟩
        go_wp2_with fail
        go_ret
        refine ⟨?_, rfl⟩
        rw [HW.out, show 88 - t = (88 - t - 1) + 1 by omega]
        have : tokB t = s.toList := by have := eq_of_beq hq; unfold tokS at this; rw [toList_lit] at this; exact this
        simp only [wordFrom, this, if_true]
        rfl
      · have hq := Bool.eq_false_iff.2 hq
        go_wp2_with fail
        refine HC.out.mono ?_
        rintro e w' ⟨rfl, rfl⟩
        go_wp2_with fail
        go_roundw
        case rel =>
          refine ⟨t + 1, by omega, by omega, by go_num, ?_, rfl⟩
          rw [HW.out, show 88 - t = (88 - (t + 1)) + 1 by omega]
          have : ¬ tokB t = s.toList := by have := ne_of_beq_false hq; unfold tokS at this; rw [toList_lit] at this; exact this
          simp only [wordFrom, this, if_false]
        case measure => simp [intOf]; omega
    · have : t = 88 := by omega
      subst this
      go_wp2_with fail
      go_ret
      refine ⟨?_, rfl⟩
      rw [HW.out]
      rfl

theorem wordFrom_range (s : List UInt8) : ∀ k t, wordFrom s k t = 0 ∨ ∃ j : Nat, wordFrom s k t = j ∧ t ≤ j ∧ j < t + k ∧ tokB j = s
  | 0, _ => .inl rfl
  | k + 1, t => by
    simp only [wordFrom]
    split
    · rename_i h; exact .inr ⟨t, rfl, by omega, by omega, h⟩
    · rcases wordFrom_range s k (t + 1) with h | ⟨j, h, h1, h2, h3⟩
      · exact .inl h
      · exact .inr ⟨j, h, by omega, by omega, h3⟩
theorem wordOf_range (s : ByteArray) : ∃ t : Nat, wordOf s = t ∧ t < 89 := by
  rcases wordFrom_range s.toList 76 12 with h | ⟨j, h, h1, h2, _⟩
  · exact ⟨0, h, by omega⟩
  · exact ⟨j, h, by omega⟩
#print axioms word_any
end Go.Proofs.YtkkgfgllfbahlaaGreatFmt
