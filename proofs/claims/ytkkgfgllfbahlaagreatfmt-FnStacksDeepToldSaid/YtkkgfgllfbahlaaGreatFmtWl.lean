/- ast.Walk with a visitor of whatever type: what is asked of Visit; walkList (printed by gen_wg.py).
ast.Walk at some kinds of nodes (printed by gen_wg.py). -/
import Derived.Test.YtkkgfgllfbahlaaGreatFmtXt
import Derived.Test.YtkkgfgllfbahlaaGreatFmtCvE
import Derived.Test.YtkkgfgllfbahlaaGreatFmtBU
import Derived.Handy
import Derived.LoopTactic
import Derived.Deep.Cut
set_option linter.unusedVariables false
set_option linter.unusedSimpArgs false
namespace Go.Proofs.YtkkgfgllfbahlaaGreatFmt
open Go Go.RowKit
set_option linter.unusedSimpArgs false

def VisPost (V : Vis) (ty : Nat) (xv : V.T → Value) (ok : Nat → V.T → Prop) (R : V.T → Nat → V.S → World → Prop) (t : V.T) (b : Nat) (p : Option V.T × V.S) (e : Ending) (w' : World) : Prop := match p with
  | (none, s') => e = .returned .nilIface ∧ R t b s' w'
  | (some t', s') => e = .returned (.iface ty (xv t')) ∧ ok b t' ∧ R t' b s' w'
/-- What is asked of Visit: R t b s w: the visitor t has kept s in w, and may be called b times more. -/
structure GoodG (V : Vis) (D : Nat → Prop) (w0 : World) (ty fv : Nat) (xv : V.T → Value) (ok : Nat → V.T → Prop) (R : V.T → Nat → V.S → World → Prop) : Prop where
  meth : ∀ n t W, Sem.run Tryz.prog (method (n + 1) ty (xv t) "Visit") W = .ok (fv, xv t) W
  enters : ∀ args W, Sem.run Tryz.prog (callFunc fv args) W = .ok (.enter fv args) W
  mid : ∀ t b s w, R t b s w → Mid D w0 w
  mono : ∀ t b s w, R t (b + 1) s w → R t b s w
  okm : ∀ b t, ok (b + 1) t → ok b t
  vis : ∀ b t s w a node, ok (b + 1) t → R t (b + 1) s w → At D w0 a node → a.good = true → Calls Tryz.prog fv #[xv t, node] w (VisPost V ty xv ok R t b (V.step t (some a.kind) s))
  nil : ∀ b t t0 k s0 s w, (V.step t0 (some k) s0).1 = some t → ok (b + 1) t → R t (b + 1) s w → Calls Tryz.prog fv #[xv t, .nilIface] w fun e w' => ∃ r, e = .returned r ∧ R t0 b (V.step t none s).2 w'
theorem castR {V : Vis} {R : V.T → Nat → V.S → World → Prop} {t : V.T} {m n : Nat} {s : V.S} {w : World} (h : R t m s w) (e : m = n) : R t n s w := e ▸ h
theorem GoodG.monoN {V : Vis} {D : Nat → Prop} {w0 : World} {ty fv : Nat} {xv : V.T → Value} {ok : Nat → V.T → Prop} {R : V.T → Nat → V.S → World → Prop} (G : GoodG V D w0 ty fv xv ok R) : ∀ {t : V.T} {m n : Nat} {s : V.S} {w : World}, R t m s w → n ≤ m → R t n s w := by
  intro t m n s w h hn
  obtain ⟨d, rfl⟩ := Nat.exists_eq_add_of_le hn
  clear hn
  induction d with
  | zero => exact h
  | succ d ih => exact ih (G.mono _ _ _ _ h)
theorem GoodG.okN {V : Vis} {D : Nat → Prop} {w0 : World} {ty fv : Nat} {xv : V.T → Value} {ok : Nat → V.T → Prop} {R : V.T → Nat → V.S → World → Prop} (G : GoodG V D w0 ty fv xv ok R) : ∀ {m n : Nat} {t : V.T}, ok m t → n ≤ m → ok n t := by
  intro m n t h hn
  obtain ⟨d, rfl⟩ := Nat.exists_eq_add_of_le hn
  clear hn
  induction d with
  | zero => exact h
  | succ d ih => exact ih (G.okm _ _ h)
/-- Walk answers on this node; so do the two walkLists on this row. -/
abbrev WKG (V : Vis) (ty : Nat) (xv : V.T → Value) (ok : Nat → V.T → Prop) (R : V.T → Nat → V.S → World → Prop) (x : XT) (v : Value) : Prop := ∀ (b : Nat) (t : V.T) (s : V.S) (w : World), ok (b + 2 * x.size) t → R t (b + 2 * x.size) s w →
  Calls Tryz.prog 25 #[.iface ty (xv t), v] w fun e w' => ∃ r, e = .returned r ∧ R t b (walkX V x t s) w'
abbrev WLEG (V : Vis) (ty : Nat) (xv : V.T → Value) (ok : Nat → V.T → Prop) (R : V.T → Nat → V.S → World → Prop) (l : List XT) (v : Value) : Prop := ∀ (b : Nat) (t : V.T) (s : V.S) (w : World), ok (b + 2 * sizeXs l) t → R t (b + 2 * sizeXs l) s w →
  Calls Tryz.prog 46 #[.iface ty (xv t), v] w fun e w' => ∃ r, e = .returned r ∧ R t b (walkXs V l t s) w'
abbrev WLSG (V : Vis) (ty : Nat) (xv : V.T → Value) (ok : Nat → V.T → Prop) (R : V.T → Nat → V.S → World → Prop) (l : List XT) (v : Value) : Prop := ∀ (b : Nat) (t : V.T) (s : V.S) (w : World), ok (b + 2 * sizeXs l) t → R t (b + 2 * sizeXs l) s w →
  Calls Tryz.prog 47 #[.iface ty (xv t), v] w fun e w' => ∃ r, e = .returned r ∧ R t b (walkXs V l t s) w'

set_option maxRecDepth 100000 in
set_option maxHeartbeats 16000000 in
theorem wlEG {V : Vis} {D : Nat → Prop} {w0 : World} {ty fv : Nat} {xv : V.T → Value} {ok : Nat → V.T → Prop} {R : V.T → Nat → V.S → World → Prop} (G : GoodG V D w0 ty fv xv ok R) (l : List Ast) (hlen : l.length ≤ 400) (hK : ∀ k, k ∈ l → ∀ v, At D w0 k v → WKG V ty xv ok R k.xt v) {v : Value} (ha : AtS D w0 l v) : WLEG V ty xv ok R (xtL l) v := by
  intro b t s w hok hR
  have HK := hide hK
  clear hK
  have HG := hide G
  rw [xtL_map] at hok hR ⊢
  rcases ha with ⟨rfl, rfl⟩ | ⟨sb, so, cap, rfl, hc, hm, hr⟩
  · go_enter Tryz.func46, Tryz.ntmps46
    go_wp2_with fail
    refine wp_loop_rounds 1 ?_
    rw [rounds_succ]
    go_wp2_with fail
    go_returns
    exact ⟨_, rfl, hR⟩
  · have HA := hide hr
    have HO := hide hok
    have HR0 := hide hR
    clear hr hok hR G
    go_enter Tryz.func46, Tryz.ntmps46
    go_wp2_with fail
    go_loopw [8] (fun c wr => ∃ i : Nat, i ≤ l.length ∧ c = .int .i64 i ∧ R t (b + 2 * sizeXs ((l.drop i).map Ast.xt)) (walkXs V ((l.take i).map Ast.xt) t s) wr) (fun c _ => l.length - (intOf c).toNat)
    case atStart => exact ⟨0, Nat.zero_le _, rfl, by simpa [walkXs] using HR0.out⟩
    case round =>
      obtain ⟨i, hin, rfl, hRi⟩ := hrel
      by_cases hlt : i < l.length
      · have ha : l[i]? = some l[i] := by simp
        obtain ⟨va, hsb, ca, haa⟩ := HA.out.get ha
        have s0 := ((HG.out.mid _ _ _ _ hRi).cell (o := so + i) hsb).trans ca
        have hdrop : (l.drop i).map Ast.xt = l[i].xt :: (l.drop (i + 1)).map Ast.xt := by rw [List.drop_eq_getElem_cons hlt]; rfl
        have htake : (l.take (i + 1)).map Ast.xt = (l.take i).map Ast.xt ++ [l[i].xt] := by rw [List.take_succ_eq_append_getElem hlt, List.map_append]; rfl
        have hsz : b + 2 * sizeXs ((l.drop i).map Ast.xt) = b + 2 * sizeXs ((l.drop (i + 1)).map Ast.xt) + 2 * l[i].xt.size := by rw [hdrop, sizeXs]; omega
        have hle : b + 2 * sizeXs ((l.drop i).map Ast.xt) ≤ b + 2 * sizeXs (l.map Ast.xt) := by
          have := sizeXs_append ((l.take i).map Ast.xt) ((l.drop i).map Ast.xt)
          rw [← List.map_append, List.take_append_drop] at this
          omega
        rw [hsz] at hRi hle
        have HX := hide (HK.out l[i] (List.getElem_mem hlt) va haa _ t _ wr (HG.out.okN HO.out hle) hRi)
        have HT := hide htake
        clear haa ca ha hRi hdrop hsz hle htake
        go_wp2_with fail
        with_reducible refine Calls.mono HX.out ?_
        rintro e w2 ⟨r2, rfl, hR2⟩
        go_wp2_with fail
        go_roundw
        case rel => exact ⟨i + 1, hlt, by go_num, by rw [HT.out, walkXs_append]; simpa only [walkXs] using hR2⟩
        case measure => simp [intOf]; omega
      · have hie : i = l.length := by omega
        subst hie
        have HR1 := hide hRi
        clear hRi
        go_wp2_with fail
        go_returns
        exact ⟨_, rfl, by simpa [sizeXs] using HR1.out⟩


set_option maxRecDepth 100000 in
set_option maxHeartbeats 16000000 in
theorem wlSG {V : Vis} {D : Nat → Prop} {w0 : World} {ty fv : Nat} {xv : V.T → Value} {ok : Nat → V.T → Prop} {R : V.T → Nat → V.S → World → Prop} (G : GoodG V D w0 ty fv xv ok R) (l : List Ast) (hlen : l.length ≤ 400) (hK : ∀ k, k ∈ l → ∀ v, At D w0 k v → WKG V ty xv ok R k.xt v) {v : Value} (ha : AtS D w0 l v) : WLSG V ty xv ok R (xtL l) v := by
  intro b t s w hok hR
  have HK := hide hK
  clear hK
  have HG := hide G
  rw [xtL_map] at hok hR ⊢
  rcases ha with ⟨rfl, rfl⟩ | ⟨sb, so, cap, rfl, hc, hm, hr⟩
  · go_enter Tryz.func47, Tryz.ntmps47
    go_wp2_with fail
    refine wp_loop_rounds 1 ?_
    rw [rounds_succ]
    go_wp2_with fail
    go_returns
    exact ⟨_, rfl, hR⟩
  · have HA := hide hr
    have HO := hide hok
    have HR0 := hide hR
    clear hr hok hR G
    go_enter Tryz.func47, Tryz.ntmps47
    go_wp2_with fail
    go_loopw [8] (fun c wr => ∃ i : Nat, i ≤ l.length ∧ c = .int .i64 i ∧ R t (b + 2 * sizeXs ((l.drop i).map Ast.xt)) (walkXs V ((l.take i).map Ast.xt) t s) wr) (fun c _ => l.length - (intOf c).toNat)
    case atStart => exact ⟨0, Nat.zero_le _, rfl, by simpa [walkXs] using HR0.out⟩
    case round =>
      obtain ⟨i, hin, rfl, hRi⟩ := hrel
      by_cases hlt : i < l.length
      · have ha : l[i]? = some l[i] := by simp
        obtain ⟨va, hsb, ca, haa⟩ := HA.out.get ha
        have s0 := ((HG.out.mid _ _ _ _ hRi).cell (o := so + i) hsb).trans ca
        have hdrop : (l.drop i).map Ast.xt = l[i].xt :: (l.drop (i + 1)).map Ast.xt := by rw [List.drop_eq_getElem_cons hlt]; rfl
        have htake : (l.take (i + 1)).map Ast.xt = (l.take i).map Ast.xt ++ [l[i].xt] := by rw [List.take_succ_eq_append_getElem hlt, List.map_append]; rfl
        have hsz : b + 2 * sizeXs ((l.drop i).map Ast.xt) = b + 2 * sizeXs ((l.drop (i + 1)).map Ast.xt) + 2 * l[i].xt.size := by rw [hdrop, sizeXs]; omega
        have hle : b + 2 * sizeXs ((l.drop i).map Ast.xt) ≤ b + 2 * sizeXs (l.map Ast.xt) := by
          have := sizeXs_append ((l.take i).map Ast.xt) ((l.drop i).map Ast.xt)
          rw [← List.map_append, List.take_append_drop] at this
          omega
        rw [hsz] at hRi hle
        have HX := hide (HK.out l[i] (List.getElem_mem hlt) va haa _ t _ wr (HG.out.okN HO.out hle) hRi)
        have HT := hide htake
        clear haa ca ha hRi hdrop hsz hle htake
        go_wp2_with fail
        with_reducible refine Calls.mono HX.out ?_
        rintro e w2 ⟨r2, rfl, hR2⟩
        go_wp2_with fail
        go_roundw
        case rel => exact ⟨i + 1, hlt, by go_num, by rw [HT.out, walkXs_append]; simpa only [walkXs] using hR2⟩
        case measure => simp [intOf]; omega
      · have hie : i = l.length := by omega
        subst hie
        have HR1 := hide hRi
        clear hRi
        go_wp2_with fail
        go_returns
        exact ⟨_, rfl, by simpa [sizeXs] using HR1.out⟩

end Go.Proofs.YtkkgfgllfbahlaaGreatFmt

namespace Go.Proofs.YtkkgfgllfbahlaaGreatFmt
open Go Go.RowKit
set_option linter.unusedSimpArgs false

set_option maxRecDepth 100000 in
set_option maxHeartbeats 16000000 in
theorem wk_ident {V : Vis} {D : Nat → Prop} {w0 : World} {ty fv : Nat} {xv : V.T → Value} {ok : Nat → V.T → Prop} {R : V.T → Nat → V.S → World → Prop} (G : GoodG V D w0 ty fv xv ok R) (p' : Int) (s' : ByteArray) (hg : (Ast.ident p' s').good = true) (hK : ∀ k, k ∈ (Ast.ident p' s').kids → ∀ v, At D w0 k v → WKG V ty xv ok R k.xt v) {v : Value} (ha : At D w0 (Ast.ident p' s') v) : WKG V ty xv ok R (Ast.ident p' s').xt v := by
  intro b t s w hok hR
  have hL : (Ast.ident p' s').xt = .mk ⟨#[110, 97, 109, 101]⟩ ([]) := by simp [Ast.xt]
  have e0 : b + 2 * (Ast.ident p' s').xt.size = b + 1 + 2 * 0 + 1 := by rw [hL, XT.size]; (try simp only [sizeXs_append, sizeXs]) <;> omega
  rw [e0] at hok hR
  have HV := G.vis _ t s w _ _ hok hR ha hg
  obtain ⟨ad, rfl, had, c0, c1, c2⟩ := At_ident.1 ha
  have HL := hide hL
  have HKA := hide hK
  have HG := hide G
  have hcf := G.enters
  have hm0 := fun n W => G.meth n t W
  have hm1 := fun n t W => G.meth n t W
  clear hR hok hK ha hL e0 G
  have taComment := ta_miss ptr_Comment 85 54 rfl
  have taCommentGroup := ta_miss ptr_CommentGroup 85 54 rfl
  have taField := ta_miss ptr_Field 85 54 rfl
  have taFieldList := ta_miss ptr_FieldList 85 54 rfl
  have taBadExpr := ta_miss ptr_BadExpr 85 54 rfl
  have taBasicLit := ta_miss ptr_BasicLit 85 54 rfl
  have taH := ta_hit ptr_Ident 54
  rcases hst : V.step t (some (Ast.ident p' s').kind) s with ⟨_ | t1, s1⟩
  · rw [hst] at HV
    have HV := hide HV
    go_enter Tryz.func25, Tryz.ntmps25
    go_wp2_with fail
    with_reducible refine Calls.mono HV.out ?_
    rintro e w1 ⟨rfl, hR1⟩
    go_wp2_with fail
    go_returns
    refine ⟨_, rfl, ?_⟩
    rw [HL.out]
    unfold walkX
    rw [show V.step t (some ⟨#[110, 97, 109, 101]⟩) s = (none, s1) from hst]
    exact HG.out.monoN hR1 (by omega)
  · rw [hst] at HV
    have HV := hide HV
    have hm2 := fun n W => hm1 n t1 W
    clear hm1
    go_enter Tryz.func25, Tryz.ntmps25
    go_wp2_with fail
    with_reducible refine Calls.mono HV.out ?_
    rintro e w1 ⟨rfl, hok1, hR1⟩
    have d1 : ∀ j, w1.cell? ⟨ad, j, none⟩ = w0.cell? ⟨ad, j, none⟩ := fun j => (HG.out.mid _ _ _ _ hR1).cell had
    go_wp2_with fail
    with_reducible refine Calls.mono (HG.out.nil b t1 t _ _ _ w1 (congrArg Prod.fst hst) (HG.out.okN hok1 (by omega)) (castR hR1 (by omega))) ?_
    rintro e wz ⟨rz, rfl, hRz⟩
    go_wp2_with fail
    go_returns
    refine ⟨_, rfl, ?_⟩
    rw [HL.out]
    unfold walkX
    rw [show V.step t (some ⟨#[110, 97, 109, 101]⟩) s = (some t1, s1) from hst]
    simpa only [xtO, List.nil_append, walkXs_append, walkXs] using hRz

set_option maxRecDepth 100000 in
set_option maxHeartbeats 16000000 in
theorem wk_lit {V : Vis} {D : Nat → Prop} {w0 : World} {ty fv : Nat} {xv : V.T → Value} {ok : Nat → V.T → Prop} {R : V.T → Nat → V.S → World → Prop} (G : GoodG V D w0 ty fv xv ok R) (p' : Int) (e' : Int) (k' : Int) (s' : ByteArray) (hg : (Ast.lit p' e' k' s').good = true) (hK : ∀ k, k ∈ (Ast.lit p' e' k' s').kids → ∀ v, At D w0 k v → WKG V ty xv ok R k.xt v) {v : Value} (ha : At D w0 (Ast.lit p' e' k' s') v) : WKG V ty xv ok R (Ast.lit p' e' k' s').xt v := by
  intro b t s w hok hR
  have hL : (Ast.lit p' e' k' s').xt = .mk ⟨#[108, 105, 116, 101, 114, 97, 108]⟩ ([]) := by simp [Ast.xt]
  have e0 : b + 2 * (Ast.lit p' e' k' s').xt.size = b + 1 + 2 * 0 + 1 := by rw [hL, XT.size]; (try simp only [sizeXs_append, sizeXs]) <;> omega
  rw [e0] at hok hR
  have HV := G.vis _ t s w _ _ hok hR ha hg
  obtain ⟨ad, rfl, had, c0, c1, c2, c3⟩ := At_lit.1 ha
  have HL := hide hL
  have HKA := hide hK
  have HG := hide G
  have hcf := G.enters
  have hm0 := fun n W => G.meth n t W
  have hm1 := fun n t W => G.meth n t W
  clear hR hok hK ha hL e0 G
  have taComment := ta_miss ptr_Comment 81 54 rfl
  have taCommentGroup := ta_miss ptr_CommentGroup 81 54 rfl
  have taField := ta_miss ptr_Field 81 54 rfl
  have taFieldList := ta_miss ptr_FieldList 81 54 rfl
  have taBadExpr := ta_miss ptr_BadExpr 81 54 rfl
  have taIdent := ta_miss ptr_Ident 81 54 rfl
  have taH := ta_hit ptr_BasicLit 54
  rcases hst : V.step t (some (Ast.lit p' e' k' s').kind) s with ⟨_ | t1, s1⟩
  · rw [hst] at HV
    have HV := hide HV
    go_enter Tryz.func25, Tryz.ntmps25
    go_wp2_with fail
    with_reducible refine Calls.mono HV.out ?_
    rintro e w1 ⟨rfl, hR1⟩
    go_wp2_with fail
    go_returns
    refine ⟨_, rfl, ?_⟩
    rw [HL.out]
    unfold walkX
    rw [show V.step t (some ⟨#[108, 105, 116, 101, 114, 97, 108]⟩) s = (none, s1) from hst]
    exact HG.out.monoN hR1 (by omega)
  · rw [hst] at HV
    have HV := hide HV
    have hm2 := fun n W => hm1 n t1 W
    clear hm1
    go_enter Tryz.func25, Tryz.ntmps25
    go_wp2_with fail
    with_reducible refine Calls.mono HV.out ?_
    rintro e w1 ⟨rfl, hok1, hR1⟩
    have d1 : ∀ j, w1.cell? ⟨ad, j, none⟩ = w0.cell? ⟨ad, j, none⟩ := fun j => (HG.out.mid _ _ _ _ hR1).cell had
    go_wp2_with fail
    with_reducible refine Calls.mono (HG.out.nil b t1 t _ _ _ w1 (congrArg Prod.fst hst) (HG.out.okN hok1 (by omega)) (castR hR1 (by omega))) ?_
    rintro e wz ⟨rz, rfl, hRz⟩
    go_wp2_with fail
    go_returns
    refine ⟨_, rfl, ?_⟩
    rw [HL.out]
    unfold walkX
    rw [show V.step t (some ⟨#[108, 105, 116, 101, 114, 97, 108]⟩) s = (some t1, s1) from hst]
    simpa only [xtO, List.nil_append, walkXs_append, walkXs] using hRz

set_option maxRecDepth 100000 in
set_option maxHeartbeats 16000000 in
theorem wk_paren {V : Vis} {D : Nat → Prop} {w0 : World} {ty fv : Nat} {xv : V.T → Value} {ok : Nat → V.T → Prop} {R : V.T → Nat → V.S → World → Prop} (G : GoodG V D w0 ty fv xv ok R) (l' : Int) (x' : Ast) (r' : Int) (hg : (Ast.paren l' x' r').good = true) (hK : ∀ k, k ∈ (Ast.paren l' x' r').kids → ∀ v, At D w0 k v → WKG V ty xv ok R k.xt v) {v : Value} (ha : At D w0 (Ast.paren l' x' r') v) : WKG V ty xv ok R (Ast.paren l' x' r').xt v := by
  intro b t s w hok hR
  have hL : (Ast.paren l' x' r').xt = .mk ⟨#[112, 97, 114, 101, 110]⟩ ([x'.xt]) := by simp [Ast.xt]
  have e0 : b + 2 * (Ast.paren l' x' r').xt.size = b + 1 + 2 * (x'.xt.size) + 1 := by rw [hL, XT.size]; (try simp only [sizeXs_append, sizeXs]) <;> omega
  rw [e0] at hok hR
  have HV := G.vis _ t s w _ _ hok hR ha hg
  obtain ⟨ad, rfl, had, vx', c0, c1, ax', c2⟩ := At_paren.1 ha
  have HL := hide hL
  have HKA := hide hK
  have HG := hide G
  have hcf := G.enters
  have hm0 := fun n W => G.meth n t W
  have hm1 := fun n t W => G.meth n t W
  clear hR hok hK ha hL e0 G
  have taComment := ta_miss ptr_Comment 106 54 rfl
  have taCommentGroup := ta_miss ptr_CommentGroup 106 54 rfl
  have taField := ta_miss ptr_Field 106 54 rfl
  have taFieldList := ta_miss ptr_FieldList 106 54 rfl
  have taBadExpr := ta_miss ptr_BadExpr 106 54 rfl
  have taIdent := ta_miss ptr_Ident 106 54 rfl
  have taBasicLit := ta_miss ptr_BasicLit 106 54 rfl
  have taEllipsis := ta_miss ptr_Ellipsis 106 54 rfl
  have taFuncLit := ta_miss ptr_FuncLit 106 54 rfl
  have taCompositeLit := ta_miss ptr_CompositeLit 106 54 rfl
  have taH := ta_hit ptr_ParenExpr 54
  rcases hst : V.step t (some (Ast.paren l' x' r').kind) s with ⟨_ | t1, s1⟩
  · rw [hst] at HV
    have HV := hide HV
    go_enter Tryz.func25, Tryz.ntmps25
    go_wp2_with fail
    with_reducible refine Calls.mono HV.out ?_
    rintro e w1 ⟨rfl, hR1⟩
    go_wp2_with fail
    go_returns
    refine ⟨_, rfl, ?_⟩
    rw [HL.out]
    unfold walkX
    rw [show V.step t (some ⟨#[112, 97, 114, 101, 110]⟩) s = (none, s1) from hst]
    exact HG.out.monoN hR1 (by omega)
  · rw [hst] at HV
    have HV := hide HV
    have hm2 := fun n W => hm1 n t1 W
    clear hm1
    go_enter Tryz.func25, Tryz.ntmps25
    go_wp2_with fail
    with_reducible refine Calls.mono HV.out ?_
    rintro e w1 ⟨rfl, hok1, hR1⟩
    have d1 : ∀ j, w1.cell? ⟨ad, j, none⟩ = w0.cell? ⟨ad, j, none⟩ := fun j => (HG.out.mid _ _ _ _ hR1).cell had
    have Kxq := hide (HKA.out x' (by simp [Ast.kids]) _ ax')
    clear ax'
    go_wp2_with fail
    with_reducible refine Calls.mono (Kxq.out (b + 1 + 2 * (0)) t1 _ w1 (HG.out.okN hok1 (by omega)) (castR hR1 (by omega))) ?_
    rintro e w2 ⟨r2, rfl, hR2⟩
    have d2 : ∀ j, w2.cell? ⟨ad, j, none⟩ = w0.cell? ⟨ad, j, none⟩ := fun j => (HG.out.mid _ _ _ _ hR2).cell had
    go_wp2_with fail
    with_reducible refine Calls.mono (HG.out.nil b t1 t _ _ _ w2 (congrArg Prod.fst hst) (HG.out.okN hok1 (by omega)) (castR hR2 (by omega))) ?_
    rintro e wz ⟨rz, rfl, hRz⟩
    go_wp2_with fail
    go_returns
    refine ⟨_, rfl, ?_⟩
    rw [HL.out]
    unfold walkX
    rw [show V.step t (some ⟨#[112, 97, 114, 101, 110]⟩) s = (some t1, s1) from hst]
    simpa only [xtO, List.nil_append, walkXs_append, walkXs] using hRz

set_option maxRecDepth 100000 in
set_option maxHeartbeats 16000000 in
theorem wk_unary {V : Vis} {D : Nat → Prop} {w0 : World} {ty fv : Nat} {xv : V.T → Value} {ok : Nat → V.T → Prop} {R : V.T → Nat → V.S → World → Prop} (G : GoodG V D w0 ty fv xv ok R) (p' : Int) (t' : Int) (x' : Ast) (hg : (Ast.unary p' t' x').good = true) (hK : ∀ k, k ∈ (Ast.unary p' t' x').kids → ∀ v, At D w0 k v → WKG V ty xv ok R k.xt v) {v : Value} (ha : At D w0 (Ast.unary p' t' x') v) : WKG V ty xv ok R (Ast.unary p' t' x').xt v := by
  intro b t s w hok hR
  have hL : (Ast.unary p' t' x').xt = .mk ⟨#[117, 110, 97, 114, 121]⟩ ([x'.xt]) := by simp [Ast.xt]
  have e0 : b + 2 * (Ast.unary p' t' x').xt.size = b + 1 + 2 * (x'.xt.size) + 1 := by rw [hL, XT.size]; (try simp only [sizeXs_append, sizeXs]) <;> omega
  rw [e0] at hok hR
  have HV := G.vis _ t s w _ _ hok hR ha hg
  obtain ⟨ad, rfl, had, vx', c0, c1, c2, ax'⟩ := At_unary.1 ha
  have HL := hide hL
  have HKA := hide hK
  have HG := hide G
  have hcf := G.enters
  have hm0 := fun n W => G.meth n t W
  have hm1 := fun n t W => G.meth n t W
  clear hR hok hK ha hL e0 G
  have taComment := ta_miss ptr_Comment 130 54 rfl
  have taCommentGroup := ta_miss ptr_CommentGroup 130 54 rfl
  have taField := ta_miss ptr_Field 130 54 rfl
  have taFieldList := ta_miss ptr_FieldList 130 54 rfl
  have taBadExpr := ta_miss ptr_BadExpr 130 54 rfl
  have taIdent := ta_miss ptr_Ident 130 54 rfl
  have taBasicLit := ta_miss ptr_BasicLit 130 54 rfl
  have taEllipsis := ta_miss ptr_Ellipsis 130 54 rfl
  have taFuncLit := ta_miss ptr_FuncLit 130 54 rfl
  have taCompositeLit := ta_miss ptr_CompositeLit 130 54 rfl
  have taParenExpr := ta_miss ptr_ParenExpr 130 54 rfl
  have taSelectorExpr := ta_miss ptr_SelectorExpr 130 54 rfl
  have taIndexExpr := ta_miss ptr_IndexExpr 130 54 rfl
  have taIndexListExpr := ta_miss ptr_IndexListExpr 130 54 rfl
  have taSliceExpr := ta_miss ptr_SliceExpr 130 54 rfl
  have taTypeAssertExpr := ta_miss ptr_TypeAssertExpr 130 54 rfl
  have taCallExpr := ta_miss ptr_CallExpr 130 54 rfl
  have taStarExpr := ta_miss ptr_StarExpr 130 54 rfl
  have taH := ta_hit ptr_UnaryExpr 54
  rcases hst : V.step t (some (Ast.unary p' t' x').kind) s with ⟨_ | t1, s1⟩
  · rw [hst] at HV
    have HV := hide HV
    go_enter Tryz.func25, Tryz.ntmps25
    go_wp2_with fail
    with_reducible refine Calls.mono HV.out ?_
    rintro e w1 ⟨rfl, hR1⟩
    go_wp2_with fail
    go_returns
    refine ⟨_, rfl, ?_⟩
    rw [HL.out]
    unfold walkX
    rw [show V.step t (some ⟨#[117, 110, 97, 114, 121]⟩) s = (none, s1) from hst]
    exact HG.out.monoN hR1 (by omega)
  · rw [hst] at HV
    have HV := hide HV
    have hm2 := fun n W => hm1 n t1 W
    clear hm1
    go_enter Tryz.func25, Tryz.ntmps25
    go_wp2_with fail
    with_reducible refine Calls.mono HV.out ?_
    rintro e w1 ⟨rfl, hok1, hR1⟩
    have d1 : ∀ j, w1.cell? ⟨ad, j, none⟩ = w0.cell? ⟨ad, j, none⟩ := fun j => (HG.out.mid _ _ _ _ hR1).cell had
    have Kxq := hide (HKA.out x' (by simp [Ast.kids]) _ ax')
    clear ax'
    go_wp2_with fail
    with_reducible refine Calls.mono (Kxq.out (b + 1 + 2 * (0)) t1 _ w1 (HG.out.okN hok1 (by omega)) (castR hR1 (by omega))) ?_
    rintro e w2 ⟨r2, rfl, hR2⟩
    have d2 : ∀ j, w2.cell? ⟨ad, j, none⟩ = w0.cell? ⟨ad, j, none⟩ := fun j => (HG.out.mid _ _ _ _ hR2).cell had
    go_wp2_with fail
    with_reducible refine Calls.mono (HG.out.nil b t1 t _ _ _ w2 (congrArg Prod.fst hst) (HG.out.okN hok1 (by omega)) (castR hR2 (by omega))) ?_
    rintro e wz ⟨rz, rfl, hRz⟩
    go_wp2_with fail
    go_returns
    refine ⟨_, rfl, ?_⟩
    rw [HL.out]
    unfold walkX
    rw [show V.step t (some ⟨#[117, 110, 97, 114, 121]⟩) s = (some t1, s1) from hst]
    simpa only [xtO, List.nil_append, walkXs_append, walkXs] using hRz

set_option maxRecDepth 100000 in
set_option maxHeartbeats 16000000 in
theorem wk_binary {V : Vis} {D : Nat → Prop} {w0 : World} {ty fv : Nat} {xv : V.T → Value} {ok : Nat → V.T → Prop} {R : V.T → Nat → V.S → World → Prop} (G : GoodG V D w0 ty fv xv ok R) (x' : Ast) (p' : Int) (t' : Int) (y' : Ast) (hg : (Ast.binary x' p' t' y').good = true) (hK : ∀ k, k ∈ (Ast.binary x' p' t' y').kids → ∀ v, At D w0 k v → WKG V ty xv ok R k.xt v) {v : Value} (ha : At D w0 (Ast.binary x' p' t' y') v) : WKG V ty xv ok R (Ast.binary x' p' t' y').xt v := by
  intro b t s w hok hR
  have hL : (Ast.binary x' p' t' y').xt = .mk ⟨#[98, 105, 110, 97, 114, 121]⟩ ([x'.xt] ++ [y'.xt]) := by simp [Ast.xt]
  have e0 : b + 2 * (Ast.binary x' p' t' y').xt.size = b + 1 + 2 * (x'.xt.size + y'.xt.size) + 1 := by rw [hL, XT.size]; (try simp only [sizeXs_append, sizeXs]) <;> omega
  rw [e0] at hok hR
  have HV := G.vis _ t s w _ _ hok hR ha hg
  obtain ⟨ad, rfl, had, vx', vy', c0, ax', c1, c2, c3, ay'⟩ := At_binary.1 ha
  have HL := hide hL
  have HKA := hide hK
  have HG := hide G
  have hcf := G.enters
  have hm0 := fun n W => G.meth n t W
  have hm1 := fun n t W => G.meth n t W
  clear hR hok hK ha hL e0 G
  have taComment := ta_miss ptr_Comment 134 54 rfl
  have taCommentGroup := ta_miss ptr_CommentGroup 134 54 rfl
  have taField := ta_miss ptr_Field 134 54 rfl
  have taFieldList := ta_miss ptr_FieldList 134 54 rfl
  have taBadExpr := ta_miss ptr_BadExpr 134 54 rfl
  have taIdent := ta_miss ptr_Ident 134 54 rfl
  have taBasicLit := ta_miss ptr_BasicLit 134 54 rfl
  have taEllipsis := ta_miss ptr_Ellipsis 134 54 rfl
  have taFuncLit := ta_miss ptr_FuncLit 134 54 rfl
  have taCompositeLit := ta_miss ptr_CompositeLit 134 54 rfl
  have taParenExpr := ta_miss ptr_ParenExpr 134 54 rfl
  have taSelectorExpr := ta_miss ptr_SelectorExpr 134 54 rfl
  have taIndexExpr := ta_miss ptr_IndexExpr 134 54 rfl
  have taIndexListExpr := ta_miss ptr_IndexListExpr 134 54 rfl
  have taSliceExpr := ta_miss ptr_SliceExpr 134 54 rfl
  have taTypeAssertExpr := ta_miss ptr_TypeAssertExpr 134 54 rfl
  have taCallExpr := ta_miss ptr_CallExpr 134 54 rfl
  have taStarExpr := ta_miss ptr_StarExpr 134 54 rfl
  have taUnaryExpr := ta_miss ptr_UnaryExpr 134 54 rfl
  have taH := ta_hit ptr_BinaryExpr 54
  rcases hst : V.step t (some (Ast.binary x' p' t' y').kind) s with ⟨_ | t1, s1⟩
  · rw [hst] at HV
    have HV := hide HV
    go_enter Tryz.func25, Tryz.ntmps25
    go_wp2_with fail
    with_reducible refine Calls.mono HV.out ?_
    rintro e w1 ⟨rfl, hR1⟩
    go_wp2_with fail
    go_returns
    refine ⟨_, rfl, ?_⟩
    rw [HL.out]
    unfold walkX
    rw [show V.step t (some ⟨#[98, 105, 110, 97, 114, 121]⟩) s = (none, s1) from hst]
    exact HG.out.monoN hR1 (by omega)
  · rw [hst] at HV
    have HV := hide HV
    have hm2 := fun n W => hm1 n t1 W
    clear hm1
    go_enter Tryz.func25, Tryz.ntmps25
    go_wp2_with fail
    with_reducible refine Calls.mono HV.out ?_
    rintro e w1 ⟨rfl, hok1, hR1⟩
    have d1 : ∀ j, w1.cell? ⟨ad, j, none⟩ = w0.cell? ⟨ad, j, none⟩ := fun j => (HG.out.mid _ _ _ _ hR1).cell had
    have Kxq := hide (HKA.out x' (by simp [Ast.kids]) _ ax')
    clear ax'
    go_wp2_with fail
    with_reducible refine Calls.mono (Kxq.out (b + 1 + 2 * (y'.xt.size)) t1 _ w1 (HG.out.okN hok1 (by omega)) (castR hR1 (by omega))) ?_
    rintro e w2 ⟨r2, rfl, hR2⟩
    have d2 : ∀ j, w2.cell? ⟨ad, j, none⟩ = w0.cell? ⟨ad, j, none⟩ := fun j => (HG.out.mid _ _ _ _ hR2).cell had
    have Kyq := hide (HKA.out y' (by simp [Ast.kids]) _ ay')
    clear ay'
    go_wp2_with fail
    with_reducible refine Calls.mono (Kyq.out (b + 1 + 2 * (0)) t1 _ w2 (HG.out.okN hok1 (by omega)) (castR hR2 (by omega))) ?_
    rintro e w3 ⟨r3, rfl, hR3⟩
    have d3 : ∀ j, w3.cell? ⟨ad, j, none⟩ = w0.cell? ⟨ad, j, none⟩ := fun j => (HG.out.mid _ _ _ _ hR3).cell had
    go_wp2_with fail
    with_reducible refine Calls.mono (HG.out.nil b t1 t _ _ _ w3 (congrArg Prod.fst hst) (HG.out.okN hok1 (by omega)) (castR hR3 (by omega))) ?_
    rintro e wz ⟨rz, rfl, hRz⟩
    go_wp2_with fail
    go_returns
    refine ⟨_, rfl, ?_⟩
    rw [HL.out]
    unfold walkX
    rw [show V.step t (some ⟨#[98, 105, 110, 97, 114, 121]⟩) s = (some t1, s1) from hst]
    simpa only [xtO, List.nil_append, walkXs_append, walkXs] using hRz

set_option maxRecDepth 100000 in
set_option maxHeartbeats 16000000 in
theorem wk_sel {V : Vis} {D : Nat → Prop} {w0 : World} {ty fv : Nat} {xv : V.T → Value} {ok : Nat → V.T → Prop} {R : V.T → Nat → V.S → World → Prop} (G : GoodG V D w0 ty fv xv ok R) (x' : Ast) (y' : Ast) (hg : (Ast.sel x' y').good = true) (hK : ∀ k, k ∈ (Ast.sel x' y').kids → ∀ v, At D w0 k v → WKG V ty xv ok R k.xt v) {v : Value} (ha : At D w0 (Ast.sel x' y') v) : WKG V ty xv ok R (Ast.sel x' y').xt v := by
  intro b t s w hok hR
  have hL : (Ast.sel x' y').xt = .mk ⟨#[115, 101, 108, 101, 99, 116]⟩ ([x'.xt] ++ [y'.xt]) := by simp [Ast.xt]
  have e0 : b + 2 * (Ast.sel x' y').xt.size = b + 1 + 2 * (x'.xt.size + y'.xt.size) + 1 := by rw [hL, XT.size]; (try simp only [sizeXs_append, sizeXs]) <;> omega
  rw [e0] at hok hR
  have HV := G.vis _ t s w _ _ hok hR ha hg
  obtain ⟨ad, rfl, had, vx', vy', c0, ax', c1, ay'⟩ := At_sel.1 ha
  have HL := hide hL
  have HKA := hide hK
  have HG := hide G
  have hcf := G.enters
  have hm0 := fun n W => G.meth n t W
  have hm1 := fun n t W => G.meth n t W
  clear hR hok hK ha hL e0 G
  have taComment := ta_miss ptr_Comment 109 54 rfl
  have taCommentGroup := ta_miss ptr_CommentGroup 109 54 rfl
  have taField := ta_miss ptr_Field 109 54 rfl
  have taFieldList := ta_miss ptr_FieldList 109 54 rfl
  have taBadExpr := ta_miss ptr_BadExpr 109 54 rfl
  have taIdent := ta_miss ptr_Ident 109 54 rfl
  have taBasicLit := ta_miss ptr_BasicLit 109 54 rfl
  have taEllipsis := ta_miss ptr_Ellipsis 109 54 rfl
  have taFuncLit := ta_miss ptr_FuncLit 109 54 rfl
  have taCompositeLit := ta_miss ptr_CompositeLit 109 54 rfl
  have taParenExpr := ta_miss ptr_ParenExpr 109 54 rfl
  have taH := ta_hit ptr_SelectorExpr 54
  rcases hst : V.step t (some (Ast.sel x' y').kind) s with ⟨_ | t1, s1⟩
  · rw [hst] at HV
    have HV := hide HV
    go_enter Tryz.func25, Tryz.ntmps25
    go_wp2_with fail
    with_reducible refine Calls.mono HV.out ?_
    rintro e w1 ⟨rfl, hR1⟩
    go_wp2_with fail
    go_returns
    refine ⟨_, rfl, ?_⟩
    rw [HL.out]
    unfold walkX
    rw [show V.step t (some ⟨#[115, 101, 108, 101, 99, 116]⟩) s = (none, s1) from hst]
    exact HG.out.monoN hR1 (by omega)
  · rw [hst] at HV
    have HV := hide HV
    have hm2 := fun n W => hm1 n t1 W
    clear hm1
    go_enter Tryz.func25, Tryz.ntmps25
    go_wp2_with fail
    with_reducible refine Calls.mono HV.out ?_
    rintro e w1 ⟨rfl, hok1, hR1⟩
    have d1 : ∀ j, w1.cell? ⟨ad, j, none⟩ = w0.cell? ⟨ad, j, none⟩ := fun j => (HG.out.mid _ _ _ _ hR1).cell had
    have Kxq := hide (HKA.out x' (by simp [Ast.kids]) _ ax')
    clear ax'
    go_wp2_with fail
    with_reducible refine Calls.mono (Kxq.out (b + 1 + 2 * (y'.xt.size)) t1 _ w1 (HG.out.okN hok1 (by omega)) (castR hR1 (by omega))) ?_
    rintro e w2 ⟨r2, rfl, hR2⟩
    have d2 : ∀ j, w2.cell? ⟨ad, j, none⟩ = w0.cell? ⟨ad, j, none⟩ := fun j => (HG.out.mid _ _ _ _ hR2).cell had
    have Kyq := hide (HKA.out y' (by simp [Ast.kids]) _ ay')
    clear ay'
    go_wp2_with fail
    with_reducible refine Calls.mono (Kyq.out (b + 1 + 2 * (0)) t1 _ w2 (HG.out.okN hok1 (by omega)) (castR hR2 (by omega))) ?_
    rintro e w3 ⟨r3, rfl, hR3⟩
    have d3 : ∀ j, w3.cell? ⟨ad, j, none⟩ = w0.cell? ⟨ad, j, none⟩ := fun j => (HG.out.mid _ _ _ _ hR3).cell had
    go_wp2_with fail
    with_reducible refine Calls.mono (HG.out.nil b t1 t _ _ _ w3 (congrArg Prod.fst hst) (HG.out.okN hok1 (by omega)) (castR hR3 (by omega))) ?_
    rintro e wz ⟨rz, rfl, hRz⟩
    go_wp2_with fail
    go_returns
    refine ⟨_, rfl, ?_⟩
    rw [HL.out]
    unfold walkX
    rw [show V.step t (some ⟨#[115, 101, 108, 101, 99, 116]⟩) s = (some t1, s1) from hst]
    simpa only [xtO, List.nil_append, walkXs_append, walkXs] using hRz

set_option maxRecDepth 100000 in
set_option maxHeartbeats 16000000 in
theorem wk_index {V : Vis} {D : Nat → Prop} {w0 : World} {ty fv : Nat} {xv : V.T → Value} {ok : Nat → V.T → Prop} {R : V.T → Nat → V.S → World → Prop} (G : GoodG V D w0 ty fv xv ok R) (x' : Ast) (l' : Int) (y' : Ast) (r' : Int) (hg : (Ast.index x' l' y' r').good = true) (hK : ∀ k, k ∈ (Ast.index x' l' y' r').kids → ∀ v, At D w0 k v → WKG V ty xv ok R k.xt v) {v : Value} (ha : At D w0 (Ast.index x' l' y' r') v) : WKG V ty xv ok R (Ast.index x' l' y' r').xt v := by
  intro b t s w hok hR
  have hL : (Ast.index x' l' y' r').xt = .mk ⟨#[105, 110, 100, 101, 120]⟩ ([x'.xt] ++ [y'.xt]) := by simp [Ast.xt]
  have e0 : b + 2 * (Ast.index x' l' y' r').xt.size = b + 1 + 2 * (x'.xt.size + y'.xt.size) + 1 := by rw [hL, XT.size]; (try simp only [sizeXs_append, sizeXs]) <;> omega
  rw [e0] at hok hR
  have HV := G.vis _ t s w _ _ hok hR ha hg
  obtain ⟨ad, rfl, had, vx', vy', c0, ax', c1, c2, ay', c3⟩ := At_index.1 ha
  have HL := hide hL
  have HKA := hide hK
  have HG := hide G
  have hcf := G.enters
  have hm0 := fun n W => G.meth n t W
  have hm1 := fun n t W => G.meth n t W
  clear hR hok hK ha hL e0 G
  have taComment := ta_miss ptr_Comment 112 54 rfl
  have taCommentGroup := ta_miss ptr_CommentGroup 112 54 rfl
  have taField := ta_miss ptr_Field 112 54 rfl
  have taFieldList := ta_miss ptr_FieldList 112 54 rfl
  have taBadExpr := ta_miss ptr_BadExpr 112 54 rfl
  have taIdent := ta_miss ptr_Ident 112 54 rfl
  have taBasicLit := ta_miss ptr_BasicLit 112 54 rfl
  have taEllipsis := ta_miss ptr_Ellipsis 112 54 rfl
  have taFuncLit := ta_miss ptr_FuncLit 112 54 rfl
  have taCompositeLit := ta_miss ptr_CompositeLit 112 54 rfl
  have taParenExpr := ta_miss ptr_ParenExpr 112 54 rfl
  have taSelectorExpr := ta_miss ptr_SelectorExpr 112 54 rfl
  have taH := ta_hit ptr_IndexExpr 54
  rcases hst : V.step t (some (Ast.index x' l' y' r').kind) s with ⟨_ | t1, s1⟩
  · rw [hst] at HV
    have HV := hide HV
    go_enter Tryz.func25, Tryz.ntmps25
    go_wp2_with fail
    with_reducible refine Calls.mono HV.out ?_
    rintro e w1 ⟨rfl, hR1⟩
    go_wp2_with fail
    go_returns
    refine ⟨_, rfl, ?_⟩
    rw [HL.out]
    unfold walkX
    rw [show V.step t (some ⟨#[105, 110, 100, 101, 120]⟩) s = (none, s1) from hst]
    exact HG.out.monoN hR1 (by omega)
  · rw [hst] at HV
    have HV := hide HV
    have hm2 := fun n W => hm1 n t1 W
    clear hm1
    go_enter Tryz.func25, Tryz.ntmps25
    go_wp2_with fail
    with_reducible refine Calls.mono HV.out ?_
    rintro e w1 ⟨rfl, hok1, hR1⟩
    have d1 : ∀ j, w1.cell? ⟨ad, j, none⟩ = w0.cell? ⟨ad, j, none⟩ := fun j => (HG.out.mid _ _ _ _ hR1).cell had
    have Kxq := hide (HKA.out x' (by simp [Ast.kids]) _ ax')
    clear ax'
    go_wp2_with fail
    with_reducible refine Calls.mono (Kxq.out (b + 1 + 2 * (y'.xt.size)) t1 _ w1 (HG.out.okN hok1 (by omega)) (castR hR1 (by omega))) ?_
    rintro e w2 ⟨r2, rfl, hR2⟩
    have d2 : ∀ j, w2.cell? ⟨ad, j, none⟩ = w0.cell? ⟨ad, j, none⟩ := fun j => (HG.out.mid _ _ _ _ hR2).cell had
    have Kyq := hide (HKA.out y' (by simp [Ast.kids]) _ ay')
    clear ay'
    go_wp2_with fail
    with_reducible refine Calls.mono (Kyq.out (b + 1 + 2 * (0)) t1 _ w2 (HG.out.okN hok1 (by omega)) (castR hR2 (by omega))) ?_
    rintro e w3 ⟨r3, rfl, hR3⟩
    have d3 : ∀ j, w3.cell? ⟨ad, j, none⟩ = w0.cell? ⟨ad, j, none⟩ := fun j => (HG.out.mid _ _ _ _ hR3).cell had
    go_wp2_with fail
    with_reducible refine Calls.mono (HG.out.nil b t1 t _ _ _ w3 (congrArg Prod.fst hst) (HG.out.okN hok1 (by omega)) (castR hR3 (by omega))) ?_
    rintro e wz ⟨rz, rfl, hRz⟩
    go_wp2_with fail
    go_returns
    refine ⟨_, rfl, ?_⟩
    rw [HL.out]
    unfold walkX
    rw [show V.step t (some ⟨#[105, 110, 100, 101, 120]⟩) s = (some t1, s1) from hst]
    simpa only [xtO, List.nil_append, walkXs_append, walkXs] using hRz

set_option maxRecDepth 100000 in
set_option maxHeartbeats 16000000 in
theorem wk_call {V : Vis} {D : Nat → Prop} {w0 : World} {ty fv : Nat} {xv : V.T → Value} {ok : Nat → V.T → Prop} {R : V.T → Nat → V.S → World → Prop} (G : GoodG V D w0 ty fv xv ok R) (x' : Ast) (l' : Int) (a' : List Ast) (e' : Int) (r' : Int) (hg : (Ast.call x' l' a' e' r').good = true) (hK : ∀ k, k ∈ (Ast.call x' l' a' e' r').kids → ∀ v, At D w0 k v → WKG V ty xv ok R k.xt v) {v : Value} (ha : At D w0 (Ast.call x' l' a' e' r') v) : WKG V ty xv ok R (Ast.call x' l' a' e' r').xt v := by
  intro b t s w hok hR
  have hL : (Ast.call x' l' a' e' r').xt = .mk ⟨#[99, 97, 108, 108]⟩ ([x'.xt] ++ xtL a') := by simp [Ast.xt]
  have e0 : b + 2 * (Ast.call x' l' a' e' r').xt.size = b + 1 + 2 * (x'.xt.size + sizeXs (xtL a')) + 1 := by rw [hL, XT.size]; (try simp only [sizeXs_append, sizeXs]) <;> omega
  rw [e0] at hok hR
  have HV := G.vis _ t s w _ _ hok hR ha hg
  obtain ⟨ad, rfl, had, vx', va', c0, ax', c1, c2, aa', c3, c4⟩ := At_call.1 ha
  have HL := hide hL
  have HKA := hide hK
  have HG := hide G
  have hcf := G.enters
  have hm0 := fun n W => G.meth n t W
  have hm1 := fun n t W => G.meth n t W
  have HAaq := hide aa'
  clear hR hok hK ha hL e0 G aa'
  have taComment := ta_miss ptr_Comment 124 54 rfl
  have taCommentGroup := ta_miss ptr_CommentGroup 124 54 rfl
  have taField := ta_miss ptr_Field 124 54 rfl
  have taFieldList := ta_miss ptr_FieldList 124 54 rfl
  have taBadExpr := ta_miss ptr_BadExpr 124 54 rfl
  have taIdent := ta_miss ptr_Ident 124 54 rfl
  have taBasicLit := ta_miss ptr_BasicLit 124 54 rfl
  have taEllipsis := ta_miss ptr_Ellipsis 124 54 rfl
  have taFuncLit := ta_miss ptr_FuncLit 124 54 rfl
  have taCompositeLit := ta_miss ptr_CompositeLit 124 54 rfl
  have taParenExpr := ta_miss ptr_ParenExpr 124 54 rfl
  have taSelectorExpr := ta_miss ptr_SelectorExpr 124 54 rfl
  have taIndexExpr := ta_miss ptr_IndexExpr 124 54 rfl
  have taIndexListExpr := ta_miss ptr_IndexListExpr 124 54 rfl
  have taSliceExpr := ta_miss ptr_SliceExpr 124 54 rfl
  have taTypeAssertExpr := ta_miss ptr_TypeAssertExpr 124 54 rfl
  have taH := ta_hit ptr_CallExpr 54
  rcases hst : V.step t (some (Ast.call x' l' a' e' r').kind) s with ⟨_ | t1, s1⟩
  · rw [hst] at HV
    have HV := hide HV
    go_enter Tryz.func25, Tryz.ntmps25
    go_wp2_with fail
    with_reducible refine Calls.mono HV.out ?_
    rintro e w1 ⟨rfl, hR1⟩
    go_wp2_with fail
    go_returns
    refine ⟨_, rfl, ?_⟩
    rw [HL.out]
    unfold walkX
    rw [show V.step t (some ⟨#[99, 97, 108, 108]⟩) s = (none, s1) from hst]
    exact HG.out.monoN hR1 (by omega)
  · rw [hst] at HV
    have HV := hide HV
    have hm2 := fun n W => hm1 n t1 W
    clear hm1
    go_enter Tryz.func25, Tryz.ntmps25
    go_wp2_with fail
    with_reducible refine Calls.mono HV.out ?_
    rintro e w1 ⟨rfl, hok1, hR1⟩
    have d1 : ∀ j, w1.cell? ⟨ad, j, none⟩ = w0.cell? ⟨ad, j, none⟩ := fun j => (HG.out.mid _ _ _ _ hR1).cell had
    have Kxq := hide (HKA.out x' (by simp [Ast.kids]) _ ax')
    clear ax'
    go_wp2_with fail
    with_reducible refine Calls.mono (Kxq.out (b + 1 + 2 * (sizeXs (xtL a'))) t1 _ w1 (HG.out.okN hok1 (by omega)) (castR hR1 (by omega))) ?_
    rintro e w2 ⟨r2, rfl, hR2⟩
    have d2 : ∀ j, w2.cell? ⟨ad, j, none⟩ = w0.cell? ⟨ad, j, none⟩ := fun j => (HG.out.mid _ _ _ _ hR2).cell had
    have Kaq := hide (wlEG HG.out a' (by simp [Ast.good] at hg; omega) (fun k hk v hv => HKA.out k (by simp [Ast.kids, hk]) v hv) HAaq.out)
    go_wp2_with fail
    with_reducible refine Calls.mono (Kaq.out (b + 1 + 2 * (0)) t1 _ w2 (HG.out.okN hok1 (by omega)) (castR hR2 (by omega))) ?_
    rintro e w3 ⟨r3, rfl, hR3⟩
    have d3 : ∀ j, w3.cell? ⟨ad, j, none⟩ = w0.cell? ⟨ad, j, none⟩ := fun j => (HG.out.mid _ _ _ _ hR3).cell had
    go_wp2_with fail
    with_reducible refine Calls.mono (HG.out.nil b t1 t _ _ _ w3 (congrArg Prod.fst hst) (HG.out.okN hok1 (by omega)) (castR hR3 (by omega))) ?_
    rintro e wz ⟨rz, rfl, hRz⟩
    go_wp2_with fail
    go_returns
    refine ⟨_, rfl, ?_⟩
    rw [HL.out]
    unfold walkX
    rw [show V.step t (some ⟨#[99, 97, 108, 108]⟩) s = (some t1, s1) from hst]
    simpa only [xtO, List.nil_append, walkXs_append, walkXs] using hRz

set_option maxRecDepth 100000 in
set_option maxHeartbeats 16000000 in
theorem wk_asrt {V : Vis} {D : Nat → Prop} {w0 : World} {ty fv : Nat} {xv : V.T → Value} {ok : Nat → V.T → Prop} {R : V.T → Nat → V.S → World → Prop} (G : GoodG V D w0 ty fv xv ok R) (x' : Ast) (l' : Int) (y' : Option Ast) (r' : Int) (hg : (Ast.asrt x' l' y' r').good = true) (hK : ∀ k, k ∈ (Ast.asrt x' l' y' r').kids → ∀ v, At D w0 k v → WKG V ty xv ok R k.xt v) {v : Value} (ha : At D w0 (Ast.asrt x' l' y' r') v) : WKG V ty xv ok R (Ast.asrt x' l' y' r').xt v := by
  intro b t s w hok hR
  have hL : (Ast.asrt x' l' y' r').xt = .mk ⟨#[97, 115, 115, 101, 114, 116]⟩ ([x'.xt] ++ xtO y') := by simp [Ast.xt]
  have e0 : b + 2 * (Ast.asrt x' l' y' r').xt.size = b + 1 + 2 * (x'.xt.size + sizeXs (xtO y')) + 1 := by rw [hL, XT.size]; (try simp only [sizeXs_append, sizeXs]) <;> omega
  rw [e0] at hok hR
  have HV := G.vis _ t s w _ _ hok hR ha hg
  obtain ⟨ad, rfl, had, vx', vy', c0, ax', c1, c2, ay', c3⟩ := At_asrt.1 ha
  have HL := hide hL
  have HKA := hide hK
  have HG := hide G
  have hcf := G.enters
  have hm0 := fun n W => G.meth n t W
  have hm1 := fun n t W => G.meth n t W
  have HAyq := hide ay'
  clear hR hok hK ha hL e0 G ay'
  have taComment := ta_miss ptr_Comment 121 54 rfl
  have taCommentGroup := ta_miss ptr_CommentGroup 121 54 rfl
  have taField := ta_miss ptr_Field 121 54 rfl
  have taFieldList := ta_miss ptr_FieldList 121 54 rfl
  have taBadExpr := ta_miss ptr_BadExpr 121 54 rfl
  have taIdent := ta_miss ptr_Ident 121 54 rfl
  have taBasicLit := ta_miss ptr_BasicLit 121 54 rfl
  have taEllipsis := ta_miss ptr_Ellipsis 121 54 rfl
  have taFuncLit := ta_miss ptr_FuncLit 121 54 rfl
  have taCompositeLit := ta_miss ptr_CompositeLit 121 54 rfl
  have taParenExpr := ta_miss ptr_ParenExpr 121 54 rfl
  have taSelectorExpr := ta_miss ptr_SelectorExpr 121 54 rfl
  have taIndexExpr := ta_miss ptr_IndexExpr 121 54 rfl
  have taIndexListExpr := ta_miss ptr_IndexListExpr 121 54 rfl
  have taSliceExpr := ta_miss ptr_SliceExpr 121 54 rfl
  have taH := ta_hit ptr_TypeAssertExpr 54
  rcases hst : V.step t (some (Ast.asrt x' l' y' r').kind) s with ⟨_ | t1, s1⟩
  · rw [hst] at HV
    have HV := hide HV
    go_enter Tryz.func25, Tryz.ntmps25
    go_wp2_with fail
    with_reducible refine Calls.mono HV.out ?_
    rintro e w1 ⟨rfl, hR1⟩
    go_wp2_with fail
    go_returns
    refine ⟨_, rfl, ?_⟩
    rw [HL.out]
    unfold walkX
    rw [show V.step t (some ⟨#[97, 115, 115, 101, 114, 116]⟩) s = (none, s1) from hst]
    exact HG.out.monoN hR1 (by omega)
  · rw [hst] at HV
    have HV := hide HV
    have hm2 := fun n W => hm1 n t1 W
    clear hm1
    go_enter Tryz.func25, Tryz.ntmps25
    go_wp2_with fail
    with_reducible refine Calls.mono HV.out ?_
    rintro e w1 ⟨rfl, hok1, hR1⟩
    have d1 : ∀ j, w1.cell? ⟨ad, j, none⟩ = w0.cell? ⟨ad, j, none⟩ := fun j => (HG.out.mid _ _ _ _ hR1).cell had
    have Kxq := hide (HKA.out x' (by simp [Ast.kids]) _ ax')
    clear ax'
    go_wp2_with fail
    with_reducible refine Calls.mono (Kxq.out (b + 1 + 2 * (sizeXs (xtO y'))) t1 _ w1 (HG.out.okN hok1 (by omega)) (castR hR1 (by omega))) ?_
    rintro e w2 ⟨r2, rfl, hR2⟩
    have d2 : ∀ j, w2.cell? ⟨ad, j, none⟩ = w0.cell? ⟨ad, j, none⟩ := fun j => (HG.out.mid _ _ _ _ hR2).cell had
    go_upto_region 66 with fail
    rcases y' with _ | y'
    · have ay' := HAyq.out
      rw [AtO_none] at ay'
      subst ay'
      have eyq : sizeXs (xtO none) = 0 := rfl
      go_wp2_with fail
      with_reducible refine Calls.mono (HG.out.nil b t1 t _ _ _ w2 (congrArg Prod.fst hst) (HG.out.okN hok1 (by omega)) (castR hR2 (by omega))) ?_
      rintro e wz ⟨rz, rfl, hRz⟩
      go_wp2_with fail
      go_returns
      refine ⟨_, rfl, ?_⟩
      rw [HL.out]
      unfold walkX
      rw [show V.step t (some ⟨#[97, 115, 115, 101, 114, 116]⟩) s = (some t1, s1) from hst]
      simpa only [xtO, List.nil_append, walkXs_append, walkXs] using hRz
    · have ay' := HAyq.out
      rw [AtO_some] at ay'
      obtain ⟨py', hpy', -⟩ := ay'.ptr
      subst hpy'
      have eyq : sizeXs (xtO (some y')) = y'.xt.size := by simp [xtO, sizeXs]
      have Kyq := hide (HKA.out y' (by simp [Ast.kids]) _ ay')
      clear ay'
      go_wp2_with fail
      with_reducible refine Calls.mono (Kyq.out (b + 1 + 2 * (0)) t1 _ w2 (HG.out.okN hok1 (by omega)) (castR hR2 (by omega))) ?_
      rintro e w3 ⟨r3, rfl, hR3⟩
      have d3 : ∀ j, w3.cell? ⟨ad, j, none⟩ = w0.cell? ⟨ad, j, none⟩ := fun j => (HG.out.mid _ _ _ _ hR3).cell had
      go_wp2_with fail
      with_reducible refine Calls.mono (HG.out.nil b t1 t _ _ _ w3 (congrArg Prod.fst hst) (HG.out.okN hok1 (by omega)) (castR hR3 (by omega))) ?_
      rintro e wz ⟨rz, rfl, hRz⟩
      go_wp2_with fail
      go_returns
      refine ⟨_, rfl, ?_⟩
      rw [HL.out]
      unfold walkX
      rw [show V.step t (some ⟨#[97, 115, 115, 101, 114, 116]⟩) s = (some t1, s1) from hst]
      simpa only [xtO, List.nil_append, walkXs_append, walkXs] using hRz

end Go.Proofs.YtkkgfgllfbahlaaGreatFmt
