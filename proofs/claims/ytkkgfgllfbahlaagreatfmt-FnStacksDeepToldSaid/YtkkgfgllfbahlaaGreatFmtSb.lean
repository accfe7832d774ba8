/- spec.ident, spec.below (printed by gen_sb.py). -/
import Derived.Test.YtkkgfgllfbahlaaGreatFmtCvE
import Derived.Test.YtkkgfgllfbahlaaGreatFmtXt
set_option linter.unusedVariables false
set_option linter.unusedSimpArgs false
namespace Go.Proofs.YtkkgfgllfbahlaaGreatFmt
open Go Go.RowKit
set_option linter.unusedSimpArgs false

/-- The cells of nodes, as they lie in a row. -/
def Nds (N : Nat) (w : World) : List Nd → List Value → Prop
  | [], vs => vs = []
  | k :: ks, vs => ∃ kv r, vs = .string k.kind :: .string k.text :: kv :: r ∧ NdK N w k kv ∧ Nds N w ks r
theorem Nds.append {N : Nat} {w : World} : ∀ {a b : List Nd} {x y : List Value}, Nds N w a x → Nds N w b y → Nds N w (a ++ b) (x ++ y)
  | [], _, _, _, h, k => by simp only [Nds] at h; subst h; simpa using k
  | _ :: _, _, _, _, h, k => by
    obtain ⟨kv, r, rfl, hk, hr⟩ := h
    exact ⟨kv, r ++ _, rfl, hk, hr.append k⟩
theorem Nds.len {N : Nat} {w : World} : ∀ {a : List Nd} {x : List Value}, Nds N w a x → x.length = a.length * 3
  | [], _, h => by simp only [Nds] at h; subst h; rfl
  | _ :: _, _, h => by
    obtain ⟨kv, r, rfl, hk, hr⟩ := h
    simp [hr.len]; omega
theorem Nds.one {N : Nat} {w : World} : ∀ {a : List Nd} {x : List Value}, Nds N w a x → ∀ u ∈ x, u.oneCell' = true
  | [], _, h => by simp only [Nds] at h; subst h; simp
  | _ :: _, _, h => by
    obtain ⟨kv, r, rfl, hk, hr⟩ := h
    obtain ⟨a, c, rfl, -, -⟩ := hk.slice
    intro u hu
    simp only [List.mem_cons] at hu
    rcases hu with rfl | rfl | rfl | hu
    · rfl
    · rfl
    · rfl
    · exact hr.one u hu
theorem RowK.flat {N : Nat} {w : World} : ∀ {ks : List Nd} {b o : Nat}, RowK N w ks b o → ∃ vs, Nds N w ks vs ∧ ∀ j u, vs[j]? = some u → w.cell? ⟨b, o + j, none⟩ = some u
  | [], _, _, _ => ⟨[], rfl, fun j u h => by simp at h⟩
  | k :: ks, b, o, h => by
    simp only [RowK] at h
    obtain ⟨v, hb, c0, c1, c2, hn, hr⟩ := h
    obtain ⟨vs, hv, hc⟩ := hr.flat
    refine ⟨.string k.kind :: .string k.text :: v :: vs, ⟨v, vs, rfl, hn, hv⟩, fun j u hu => ?_⟩
    match j, hu with
    | 0, hu => simp at hu; subst hu; exact c0
    | 1, hu => simp at hu; subst hu; exact c1
    | 2, hu => simp at hu; subst hu; exact c2
    | j + 3, hu =>
      simp at hu
      rw [← hc j u hu]
      congr 2
      omega
theorem RowK.of_nds {N M : Nat} {w w1 : World} {g : Nat} (hg : g < M) (hm : N ≤ M) (hs : Same N w w1) : ∀ {ks : List Nd} {vs : List Value} {o : Nat}, Nds N w ks vs → (∀ j u, vs[j]? = some u → w1.cell? ⟨g, o + j, none⟩ = some u) → RowK M w1 ks g o
  | [], _, _, _, _ => by simp [RowK]
  | k :: ks, _, o, h, hc => by
    obtain ⟨kv, r, rfl, hk, hr⟩ := h
    simp only [RowK]
    refine ⟨kv, hg, hc 0 _ rfl, hc 1 _ rfl, hc 2 _ rfl, hk.stay hm hs, RowK.of_nds hg hm hs hr fun j u hu => ?_⟩
    rw [← hc (j + 3) u (by simpa using hu)]
    congr 2
    omega
theorem sl_of_own {w w1 : World} {base : Nat} {sv : Value} {ks : List Nd} {vs : List Value} (ho : w1.ownsRow base 24 3 sv ks.length vs) (hn : Nds w.heap.size w ks vs) (hb : Bel w w1) : SlK w1.heap.size w1 ks sv := by
  rcases ho.2 with ⟨rfl, h0⟩ | ⟨g, cap, cur, rfl, h1, hg, h2, h3, h4, h5⟩
  · exact .inl ⟨⟨none, 0, rfl, by decide⟩, List.length_eq_zero_iff.1 h0⟩
  · refine .inr ⟨g, 0, cap, rfl, h2, h3, RowK.of_nds (ho.lt g rfl).2 hb.le (hb.same (Nat.le_refl _)) hn fun j u hu => ?_⟩
    have := World.news_of_block hg j u (by
      rw [← h5, List.getElem?_take] at hu
      split at hu
      · exact hu
      · simp at hu)
    have hadd : (⟨g, 0, none⟩ : Addr).add j = ⟨g, 0 + j, none⟩ := by unfold Addr.add; split <;> simp_all
    rw [← hadd]
    exact this

theorem ident_s (t : ByteArray) (w : World) : Calls Tryz.prog 52 #[.string t] w fun e w' => e = .returned (.agg #[.string ⟨#[110, 97, 109, 101]⟩, .string t, .slice none 0 0]) ∧ Bel w w' := by
  go_enter Tryz.func52, Tryz.ntmps52
  go_wp2_with fail
  refine bodyPost_ret (v := .agg #[.string ⟨#[110, 97, 109, 101]⟩, .string t, .slice none 0 0]) (by simp [results, Tryz.results52, go_sem]) rfl ⟨rfl, (by repeat (first | exact Bel.refl _ | assumption | refine Bel.alloc ?_ _ | refine Bel.drew ?_ | refine Bel.set ?_ (by first | exact Nat.le_refl _ | (simp; done) | (simp; omega)) _))⟩

def lF (ks : List Nd) : List Nd := ks.flatMap fun n => if n.kind.toList = [108, 105, 115, 116] then n.kids else if n.kind.toList = [110, 111, 110, 101] then [] else [n]
theorem lF_snoc (ks : List Nd) (i : Nat) (x : Nd) (hx : ks[i]? = some x) : lF (ks.take (i + 1)) = lF (ks.take i) ++ (if x.kind.toList = [108, 105, 115, 116] then x.kids else if x.kind.toList = [110, 111, 110, 101] then [] else [x]) := by
  obtain ⟨hi, he⟩ := List.getElem?_eq_some_iff.1 hx
  rw [List.take_succ_eq_append_getElem hi, he]
  simp [lF]
theorem lF_len : ∀ ks : List Nd, (lF ks).length ≤ nodesL ks
  | [] => by simp [lF]
  | x :: r => by
    have hr := lF_len r
    have hx : (lF [x]).length ≤ x.nodes := by
      have h1 := nodesL_length x.kids
      have h2 := Nd.nodes_kids x
      simp only [lF, List.flatMap_cons, List.flatMap_nil, List.append_nil]
      split
      · omega
      · split <;> simp <;> omega
    have e2 : lF (x :: r) = lF [x] ++ lF r := by simp [lF]
    rw [e2, List.length_append, nodesL]
    omega
theorem nodesL_take : ∀ (ks : List Nd) (i : Nat), nodesL (ks.take i) ≤ nodesL ks
  | [], i => by simp [nodesL]
  | x :: r, 0 => by simp [nodesL]
  | x :: r, i + 1 => by
    have := nodesL_take r i
    simp only [List.take_succ_cons, nodesL]
    omega
/-- The relation of below's loop. -/
def BlRel (N : Nat) (w : World) (ks pre : List Nd) (v c : Value) (wr : World) : Prop := ∃ (i : Nat) (vs : List Value), i ≤ ks.length ∧ c = .int .i64 i ∧ wr.ownsRow (w.heap.size + 1) 24 3 v (pre ++ lF (ks.take i)).length vs ∧ Nds N w (pre ++ lF (ks.take i)) vs ∧ Bel w wr
def BePost (N : Nat) (L : List Nd) (w : World) (e : Ending) (w' : World) : Prop := ∃ sv vs, e = .returned sv ∧ w'.ownsRow (w.heap.size + 1) 24 3 sv L.length vs ∧ Nds N w L vs ∧ Bel w w'

set_option maxRecDepth 100000 in
set_option maxHeartbeats 4000000 in
theorem below_l (n : Nd) (hl : lnN n = true) (hm : n.nodes ≤ 400) (kv : Value) (w : World) (N : Nat) (hN : N ≤ w.heap.size) (hn : NdK N w n kv) (hlab : (n.kind.toList == [108, 97, 98, 101, 108]) = true) (hsel : (n.kind.toList == [115, 101, 108, 101, 99, 116]) = false) :
    Calls Tryz.prog 27 #[nodeV n kv] w (BePost N ([Nd.mk ⟨#[110, 97, 109, 101]⟩ n.text []] ++ lF n.kids) w) := by
  obtain ⟨i0, hi, hz0, hz1, hz2⟩ := info_parts info_node
  obtain ⟨a, cap, hv, hcap, hmx⟩ := hn.slice
  subst hv
  have hnn := Nd.nodes_kids n
  have hlen := nodesL_length n.kids
  have hb0 : Bel w (w.alloc (.cells #[.string n.kind, .string n.text, .slice a n.kids.length cap] 24)) := (by repeat (first | exact Bel.refl _ | assumption | refine Bel.alloc ?_ _ | refine Bel.drew ?_ | refine Bel.set ?_ (by first | exact Nat.le_refl _ | (simp; done) | (simp; omega)) _))
  have HS := hide (NdK_iff.1 hn)
  have HLN := hide (lnN_kids hl)
  clear hn
  unfold nodeV
  go_enter Tryz.func27, Tryz.ntmps27
  go_wp2_with fail
  refine (ident_s _ _).mono ?_
  rintro e wi0 ⟨rfl, hTi0⟩
  have hwi0 : Bel w wi0 := Bel.trans (by repeat (first | exact Bel.refl _ | assumption | refine Bel.alloc ?_ _ | refine Bel.drew ?_ | refine Bel.set ?_ (by first | exact Nat.le_refl _ | (simp; done) | (simp; omega)) _)) hTi0
  have ci0 := hTi0.at (b := w.heap.size) (by first | omega | (simp; done) | (simp; omega))
  have li0 : w.heap.size < wi0.heap.size := by have := hTi0.le; (try simp at this); omega
  have ni0 : ¬ w.heap.size = wi0.heap.size := by omega
  have mi0 : ¬ wi0.heap.size = w.heap.size := by omega
  have HBi0 := hide (show Bel w (wi0.alloc (.cells #[.string ⟨#[110, 97, 109, 101]⟩, .string n.text, .slice none 0 0] 24)) from (by repeat (first | exact Bel.refl _ | assumption | refine Bel.alloc ?_ _ | refine Bel.drew ?_ | refine Bel.set ?_ (by first | exact Nat.le_refl _ | (simp; done) | (simp; omega)) _)))
  go_wp2_with (first
    | (at_builtin
       refine wpList_append_lies _ rfl _ _ 22 rfl (w.heap.size + 1) 24 i0 _ 3 56 under_nodes hi hz0 hz1 hz2 rfl (by decide) (.slice none 0 0) 0 [] rfl (World.ownsRow_nil _ _ _ _) ⟨wi0.heap.size, 0, none⟩ 1 1 [.string ⟨#[110, 97, 109, 101]⟩, .string n.text, .slice none 0 0] rfl rfl (World.news_of_block (heap_alloc_new wi0 (.cells #[.string ⟨#[110, 97, 109, 101]⟩, .string n.text, .slice none 0 0] 24))) (fun u hu => by simp at hu; rcases hu with rfl | rfl | rfl <;> rfl) (by decide) (by unfold maxLen; omega) (by omega) (by simp; omega) _ rfl ?_
       intro g0 cap0 wj0 hown0 hgrow0 hat0 hlt0
       have hwj0 : Bel w wj0 := HBi0.out.row hgrow0 (fun g hg => by simp [Value.ownBlock] at hg)
       have cj0 : ∀ j, wj0.cell? ⟨w.heap.size, j, none⟩ = (wi0.alloc (.cells #[.string ⟨#[110, 97, 109, 101]⟩, .string n.text, .slice none 0 0] 24)).cell? ⟨w.heap.size, j, none⟩ := fun j => World.cell?_of_block (hgrow0.block w.heap.size (by simp; omega) (fun e => by simp [Value.ownBlock] at e))))
  have HG0 := hide hown0
  have hgrow_le0 := hgrow0.size
  simp only [World.size_alloc] at hgrow_le0
  clear hown0 hgrow0 hat0
  go_wp2_with fail
  have hown0 := HG0.out
  have hst : BlRel N w n.kids [Nd.mk ⟨#[110, 97, 109, 101]⟩ n.text []] (.slice (some ⟨g0, 0, none⟩) (0 + 1) cap0) (.int .i64 0) wj0 := ⟨0, [.string ⟨#[110, 97, 109, 101]⟩, .string n.text, .slice none 0 0], Nat.zero_le _, rfl, by simpa [lF] using hown0, by simp only [List.take_zero]; exact ⟨.slice none 0 0, [], rfl, NdK_iff.2 (.inl ⟨⟨none, 0, rfl, Nat.zero_le _⟩, rfl⟩), rfl⟩, hwj0⟩
  have HST := hide hst
  clear hst
  have l0 : w.heap.size < wj0.heap.size := by have := hwj0.le; have := hgrow_le0; omega
  go_loopw [3, 18] (fun v c wr => BlRel N w n.kids [Nd.mk ⟨#[110, 97, 109, 101]⟩ n.text []] v c wr ∧ w.heap.size < wr.heap.size ∧ (∀ j, wr.cell? ⟨w.heap.size, j, none⟩ = (w.alloc (.cells #[.string n.kind, .string n.text, .slice a n.kids.length cap] 24)).cell? ⟨w.heap.size, j, none⟩)) (fun _ c _ => n.kids.length - (intOf c).toNat)
  case atStart => exact ⟨HST.out, l0, fun j => by rw [cj0]; simp [ci0, go_sem, li0]⟩
  case round =>
    obtain ⟨⟨i, vs, hin, rfl, hown, hnd, hbr⟩, hlw, hbox⟩ := hrel
    obtain ⟨va, vc, rfl⟩ := own_slice hown
    have HO := hide hown
    have HND := hide hnd
    have hne1 : ¬ w.heap.size = wr.heap.size := by omega
    have hne2 : ¬ wr.heap.size = w.heap.size := by omega
    have hll : ([Nd.mk ⟨#[110, 97, 109, 101]⟩ n.text []] ++ lF (n.kids.take i)).length ≤ 400 := by
      have h1 := lF_len (n.kids.take i)
      have h2 := nodesL_take n.kids i
      simp only [List.length_append, List.length_cons, List.length_nil]
      omega
    have HLL := hide hll
    clear hown hnd hll
    by_cases hlt : i < n.kids.length
    · obtain ⟨x, hx⟩ : ∃ x, n.kids[i]? = some x := ⟨n.kids[i], by simp⟩
      rcases HS.out with ⟨hv, he⟩ | ⟨b, o, cap', hv, hc', hm', hr⟩
      · rw [he] at hlt; simp at hlt
      injection hv with e1 e2 e3
      subst e1 e3
      obtain ⟨xv, hbn, c0, c1, c2, hkn⟩ := hr.get hx
      obtain ⟨xa, xcap, hxv, -, -⟩ := hkn.slice
      subst hxv
      have s0 := (hbr.at (b := b) (by omega) (o + 3 * i)).trans c0
      have s1 := (hbr.at (b := b) (by omega) (o + 3 * i + 1)).trans c1
      have s2 := (hbr.at (b := b) (by omega) (o + 3 * i + 2)).trans c2
      rw [Nat.mul_comm] at s0 s1 s2
      have HSN := hide (lF_snoc n.kids i x hx)
      have HKN := hide hkn
      have HXL := hide (HLN.out x (List.mem_of_getElem? hx))
      have HXM := hide (nodesL_mem (List.mem_of_getElem? hx))
      clear hr c0 c1 c2 hkn hx
      have hbW : Bel wr (wr.alloc (.cells #[.string x.kind, .string x.text, .slice xa x.kids.length xcap] 24)) := (by repeat (first | exact Bel.refl _ | assumption | refine Bel.alloc ?_ _ | refine Bel.drew ?_ | refine Bel.set ?_ (by first | exact Nat.le_refl _ | (simp; done) | (simp; omega)) _))
      cases hkl : (x.kind.toList == [108, 105, 115, 116])
      · cases hkz : (x.kind.toList == [110, 111, 110, 101])
        · have hbX : Bel wr ((wr.alloc (.cells #[.string x.kind, .string x.text, .slice xa x.kids.length xcap] 24)).alloc (.cells #[.string x.kind, .string x.text, .slice xa x.kids.length xcap] 24)) := (by repeat (first | exact Bel.refl _ | assumption | refine Bel.alloc ?_ _ | refine Bel.drew ?_ | refine Bel.set ?_ (by first | exact Nat.le_refl _ | (simp; done) | (simp; omega)) _))
          go_wp2_with (first
            | (at_builtin
               refine wpList_append_lies _ rfl _ _ 22 rfl (w.heap.size + 1) 24 i0 _ 3 56 under_nodes hi hz0 hz1 hz2 rfl (by decide) (.slice va ([Nd.mk ⟨#[110, 97, 109, 101]⟩ n.text []] ++ lF (n.kids.take i)).length vc) _ vs rfl (ownsRow_bel HO.out hbX) ⟨wr.heap.size + 1, 0, none⟩ 1 1 [.string x.kind, .string x.text, .slice xa x.kids.length xcap] rfl rfl (World.news_of_block (by simpa using heap_alloc_new (wr.alloc (.cells #[.string x.kind, .string x.text, .slice xa x.kids.length xcap] 24)) (.cells #[.string x.kind, .string x.text, .slice xa x.kids.length xcap] 24))) (fun u hu => by simp at hu; rcases hu with rfl | rfl | rfl <;> rfl) (by decide) (by have := HLL.out; unfold maxLen; omega) (by have := HLL.out; omega) (by simp; omega) _ rfl ?_
               intro g4 cap4 w4 hown4 hgrow4 hat4 hlt4
               have hb4 : Bel w w4 := (hbr.trans hbX).row hgrow4 (fun g hg => by have := (HO.out.lt g hg).1; omega)
               have hx4 : ∀ j, w4.cell? ⟨w.heap.size, j, none⟩ = wr.cell? ⟨w.heap.size, j, none⟩ := fun j => (World.cell?_of_block (hgrow4.block w.heap.size (by simp; omega) (fun e => by have := (HO.out.lt _ e.symm).1; omega))).trans (hbX.at hlw j)))
          have HG := hide (show _ ∧ _ from ⟨hown4, hgrow4⟩)
          clear hown4 hgrow4 hat4
          go_wp2_with fail
          go_roundw
          case rel =>
            obtain ⟨hown4, hgrow4⟩ := HG.out
            have hk1 : ¬ x.kind.toList = [108, 105, 115, 116] := by simpa using hkl
            have hk2 : ¬ x.kind.toList = [110, 111, 110, 101] := by simpa using hkz
            have hF : [Nd.mk ⟨#[110, 97, 109, 101]⟩ n.text []] ++ lF (n.kids.take (i + 1)) = ([Nd.mk ⟨#[110, 97, 109, 101]⟩ n.text []] ++ lF (n.kids.take i)) ++ [x] := by rw [HSN.out, if_neg hk1, if_neg hk2, List.append_assoc]
            refine ⟨⟨i + 1, _, hlt, by go_num, ?_, by rw [hF]; exact HND.out.append ⟨_, [], rfl, HKN.out, rfl⟩, hb4⟩, by have := hgrow4.size; simp at this; omega, fun j => (hx4 j).trans (hbox j)⟩
            rw [hF, List.length_append]
            exact hown4
          case measure => simp [intOf]; omega
        · go_wp2_with fail
          go_roundw
          case rel =>
            have hk2 : x.kind.toList = [110, 111, 110, 101] := by simpa using hkz
            have hk1 : ¬ x.kind.toList = [108, 105, 115, 116] := by simpa using hkl
            have hF : lF (n.kids.take (i + 1)) = lF (n.kids.take i) := by rw [HSN.out, if_neg hk1, if_pos hk2, List.append_nil]
            refine ⟨⟨i + 1, vs, hlt, by go_num, ?_, ?_, hbr.trans hbW⟩, by simp; omega, fun j => (hbW.at hlw j).trans (hbox j)⟩
            · rw [hF]; exact ownsRow_bel HO.out hbW
            · rw [hF]; exact HND.out
          case measure => simp [intOf]; omega
      · have hk1 : x.kind.toList = [108, 105, 115, 116] := by simpa using hkl
        have hxne := lnN_list HXL.out hk1
        have hxpos : 0 < x.kids.length := by cases hq : x.kids with | nil => exact absurd hq hxne | cons => simp
        rcases NdK_iff.1 HKN.out with ⟨hv2, he2⟩ | ⟨b2, o2, cap2, hv2, hc2, hm2, hr2⟩
        · exact absurd he2 hxne
        injection hv2 with f1 f2 f3
        subst f1 f3
        obtain ⟨ns, hns, hcs⟩ := hr2.flat
        have hb2 : b2 < N := by
          cases hq : x.kids with
          | nil => exact absurd hq hxne
          | cons y r => rw [hq] at hr2; simp only [RowK] at hr2; exact hr2.choose_spec.1
        have hxl := nodesL_length x.kids
        have hxn := Nd.nodes_kids x
        have hxm := HXM.out
        have HNS := hide (show _ ∧ _ from ⟨hns, hcs⟩)
        clear hns hcs hr2
        go_wp2_with (first
          | (at_builtin
             refine wpList_append_lies _ rfl _ _ 22 rfl (w.heap.size + 1) 24 i0 _ 3 56 under_nodes hi hz0 hz1 hz2 rfl (by decide) (.slice va ([Nd.mk ⟨#[110, 97, 109, 101]⟩ n.text []] ++ lF (n.kids.take i)).length vc) _ vs rfl (ownsRow_bel HO.out hbW) ⟨b2, o2, none⟩ x.kids.length xcap ns rfl HNS.out.1.len (fun j u hu => by
               have hadd : (⟨b2, o2, none⟩ : Addr).add j = ⟨b2, o2 + j, none⟩ := by unfold Addr.add; split <;> simp_all
               rw [hadd]
               exact (hbW.at (by omega) _).trans ((hbr.at (b := b2) (by omega) _).trans (HNS.out.2 j u hu))) HNS.out.1.one hxpos (by have := HLL.out; unfold maxLen; omega) (by have := HLL.out; omega) (by simp; omega) _ rfl ?_
             intro g4 cap4 w4 hown4 hgrow4 hat4 hlt4
             have hb4 : Bel w w4 := (hbr.trans hbW).row hgrow4 (fun g hg => by have := (HO.out.lt g hg).1; omega)
             have hx4 : ∀ j, w4.cell? ⟨w.heap.size, j, none⟩ = wr.cell? ⟨w.heap.size, j, none⟩ := fun j => (World.cell?_of_block (hgrow4.block w.heap.size (by simp; omega) (fun e => by have := (HO.out.lt _ e.symm).1; omega))).trans (hbW.at hlw j)))
        have HG := hide (show _ ∧ _ from ⟨hown4, hgrow4⟩)
        clear hown4 hgrow4 hat4
        go_wp2_with fail
        go_roundw
        case rel =>
          obtain ⟨hown4, hgrow4⟩ := HG.out
          have hF : [Nd.mk ⟨#[110, 97, 109, 101]⟩ n.text []] ++ lF (n.kids.take (i + 1)) = ([Nd.mk ⟨#[110, 97, 109, 101]⟩ n.text []] ++ lF (n.kids.take i)) ++ x.kids := by rw [HSN.out, if_pos hk1, List.append_assoc]
          refine ⟨⟨i + 1, _, hlt, by go_num, ?_, by rw [hF]; exact HND.out.append HNS.out.1, hb4⟩, by have := hgrow4.size; simp at this; omega, fun j => (hx4 j).trans (hbox j)⟩
          rw [hF, List.length_append]
          exact hown4
        case measure => simp [intOf]; omega
    · have hie : i = n.kids.length := by omega
      subst hie
      have hT : lF (n.kids.take n.kids.length) = lF n.kids := by rw [List.take_length]
      go_wp2_with fail
      go_ret
      have hown := HO.out
      have hnd := HND.out
      rw [hT] at hown hnd
      have hq : BePost N ([Nd.mk ⟨#[110, 97, 109, 101]⟩ n.text []] ++ lF n.kids) w (.returned (.slice va ([Nd.mk ⟨#[110, 97, 109, 101]⟩ n.text []] ++ lF (n.kids.take n.kids.length)).length vc)) wr := ⟨_, vs, rfl, by rw [hT]; exact hown, hnd, hbr⟩
      simpa using hq

set_option maxRecDepth 100000 in
set_option maxHeartbeats 4000000 in
theorem below_s (n : Nd) (hl : lnN n = true) (hm : n.nodes ≤ 400) (kv : Value) (w : World) (N : Nat) (hN : N ≤ w.heap.size) (hn : NdK N w n kv) (hlab : (n.kind.toList == [108, 97, 98, 101, 108]) = false) (hsel : (n.kind.toList == [115, 101, 108, 101, 99, 116]) = true) :
    Calls Tryz.prog 27 #[nodeV n kv] w (BePost N ([] ++ lF n.kids ++ [Nd.mk ⟨#[110, 97, 109, 101]⟩ n.text []]) w) := by
  obtain ⟨i0, hi, hz0, hz1, hz2⟩ := info_parts info_node
  obtain ⟨a, cap, hv, hcap, hmx⟩ := hn.slice
  subst hv
  have hnn := Nd.nodes_kids n
  have hlen := nodesL_length n.kids
  have hb0 : Bel w (w.alloc (.cells #[.string n.kind, .string n.text, .slice a n.kids.length cap] 24)) := (by repeat (first | exact Bel.refl _ | assumption | refine Bel.alloc ?_ _ | refine Bel.drew ?_ | refine Bel.set ?_ (by first | exact Nat.le_refl _ | (simp; done) | (simp; omega)) _))
  have HS := hide (NdK_iff.1 hn)
  have HLN := hide (lnN_kids hl)
  clear hn
  unfold nodeV
  go_enter Tryz.func27, Tryz.ntmps27
  go_wp2_with fail
  have hst : BlRel N w n.kids [] (.slice none 0 0) (.int .i64 0) (w.alloc (.cells #[.string n.kind, .string n.text, .slice a n.kids.length cap] 24)) := ⟨0, [], Nat.zero_le _, rfl, by simpa [lF] using World.ownsRow_nil _ _ _ _, by simp [lF, Nds], hb0⟩
  have HST := hide hst
  clear hst
  have l0 : w.heap.size < (w.alloc (.cells #[.string n.kind, .string n.text, .slice a n.kids.length cap] 24)).heap.size := by simp
  go_loopw [3, 18] (fun v c wr => BlRel N w n.kids [] v c wr ∧ w.heap.size < wr.heap.size ∧ (∀ j, wr.cell? ⟨w.heap.size, j, none⟩ = (w.alloc (.cells #[.string n.kind, .string n.text, .slice a n.kids.length cap] 24)).cell? ⟨w.heap.size, j, none⟩)) (fun _ c _ => n.kids.length - (intOf c).toNat)
  case atStart => exact ⟨HST.out, l0, fun j => rfl⟩
  case round =>
    obtain ⟨⟨i, vs, hin, rfl, hown, hnd, hbr⟩, hlw, hbox⟩ := hrel
    obtain ⟨va, vc, rfl⟩ := own_slice hown
    have HO := hide hown
    have HND := hide hnd
    have hne1 : ¬ w.heap.size = wr.heap.size := by omega
    have hne2 : ¬ wr.heap.size = w.heap.size := by omega
    have hll : ([] ++ lF (n.kids.take i)).length ≤ 400 := by
      have h1 := lF_len (n.kids.take i)
      have h2 := nodesL_take n.kids i
      simp only [List.length_append, List.length_cons, List.length_nil]
      omega
    have HLL := hide hll
    clear hown hnd hll
    by_cases hlt : i < n.kids.length
    · obtain ⟨x, hx⟩ : ∃ x, n.kids[i]? = some x := ⟨n.kids[i], by simp⟩
      rcases HS.out with ⟨hv, he⟩ | ⟨b, o, cap', hv, hc', hm', hr⟩
      · rw [he] at hlt; simp at hlt
      injection hv with e1 e2 e3
      subst e1 e3
      obtain ⟨xv, hbn, c0, c1, c2, hkn⟩ := hr.get hx
      obtain ⟨xa, xcap, hxv, -, -⟩ := hkn.slice
      subst hxv
      have s0 := (hbr.at (b := b) (by omega) (o + 3 * i)).trans c0
      have s1 := (hbr.at (b := b) (by omega) (o + 3 * i + 1)).trans c1
      have s2 := (hbr.at (b := b) (by omega) (o + 3 * i + 2)).trans c2
      rw [Nat.mul_comm] at s0 s1 s2
      have HSN := hide (lF_snoc n.kids i x hx)
      have HKN := hide hkn
      have HXL := hide (HLN.out x (List.mem_of_getElem? hx))
      have HXM := hide (nodesL_mem (List.mem_of_getElem? hx))
      clear hr c0 c1 c2 hkn hx
      have hbW : Bel wr (wr.alloc (.cells #[.string x.kind, .string x.text, .slice xa x.kids.length xcap] 24)) := (by repeat (first | exact Bel.refl _ | assumption | refine Bel.alloc ?_ _ | refine Bel.drew ?_ | refine Bel.set ?_ (by first | exact Nat.le_refl _ | (simp; done) | (simp; omega)) _))
      cases hkl : (x.kind.toList == [108, 105, 115, 116])
      · cases hkz : (x.kind.toList == [110, 111, 110, 101])
        · have hbX : Bel wr ((wr.alloc (.cells #[.string x.kind, .string x.text, .slice xa x.kids.length xcap] 24)).alloc (.cells #[.string x.kind, .string x.text, .slice xa x.kids.length xcap] 24)) := (by repeat (first | exact Bel.refl _ | assumption | refine Bel.alloc ?_ _ | refine Bel.drew ?_ | refine Bel.set ?_ (by first | exact Nat.le_refl _ | (simp; done) | (simp; omega)) _))
          go_wp2_with (first
            | (at_builtin
               refine wpList_append_lies _ rfl _ _ 22 rfl (w.heap.size + 1) 24 i0 _ 3 56 under_nodes hi hz0 hz1 hz2 rfl (by decide) (.slice va ([] ++ lF (n.kids.take i)).length vc) _ vs rfl (ownsRow_bel HO.out hbX) ⟨wr.heap.size + 1, 0, none⟩ 1 1 [.string x.kind, .string x.text, .slice xa x.kids.length xcap] rfl rfl (World.news_of_block (by simpa using heap_alloc_new (wr.alloc (.cells #[.string x.kind, .string x.text, .slice xa x.kids.length xcap] 24)) (.cells #[.string x.kind, .string x.text, .slice xa x.kids.length xcap] 24))) (fun u hu => by simp at hu; rcases hu with rfl | rfl | rfl <;> rfl) (by decide) (by have := HLL.out; unfold maxLen; omega) (by have := HLL.out; omega) (by simp; omega) _ rfl ?_
               intro g4 cap4 w4 hown4 hgrow4 hat4 hlt4
               have hb4 : Bel w w4 := (hbr.trans hbX).row hgrow4 (fun g hg => by have := (HO.out.lt g hg).1; omega)
               have hx4 : ∀ j, w4.cell? ⟨w.heap.size, j, none⟩ = wr.cell? ⟨w.heap.size, j, none⟩ := fun j => (World.cell?_of_block (hgrow4.block w.heap.size (by simp; omega) (fun e => by have := (HO.out.lt _ e.symm).1; omega))).trans (hbX.at hlw j)))
          have HG := hide (show _ ∧ _ from ⟨hown4, hgrow4⟩)
          clear hown4 hgrow4 hat4
          go_wp2_with fail
          go_roundw
          case rel =>
            obtain ⟨hown4, hgrow4⟩ := HG.out
            have hk1 : ¬ x.kind.toList = [108, 105, 115, 116] := by simpa using hkl
            have hk2 : ¬ x.kind.toList = [110, 111, 110, 101] := by simpa using hkz
            have hF : [] ++ lF (n.kids.take (i + 1)) = ([] ++ lF (n.kids.take i)) ++ [x] := by rw [HSN.out, if_neg hk1, if_neg hk2, List.append_assoc]
            refine ⟨⟨i + 1, _, hlt, by go_num, ?_, by rw [hF]; exact HND.out.append ⟨_, [], rfl, HKN.out, rfl⟩, hb4⟩, by have := hgrow4.size; simp at this; omega, fun j => (hx4 j).trans (hbox j)⟩
            rw [hF, List.length_append]
            exact hown4
          case measure => simp [intOf]; omega
        · go_wp2_with fail
          go_roundw
          case rel =>
            have hk2 : x.kind.toList = [110, 111, 110, 101] := by simpa using hkz
            have hk1 : ¬ x.kind.toList = [108, 105, 115, 116] := by simpa using hkl
            have hF : lF (n.kids.take (i + 1)) = lF (n.kids.take i) := by rw [HSN.out, if_neg hk1, if_pos hk2, List.append_nil]
            refine ⟨⟨i + 1, vs, hlt, by go_num, ?_, ?_, hbr.trans hbW⟩, by simp; omega, fun j => (hbW.at hlw j).trans (hbox j)⟩
            · rw [hF]; exact ownsRow_bel HO.out hbW
            · rw [hF]; exact HND.out
          case measure => simp [intOf]; omega
      · have hk1 : x.kind.toList = [108, 105, 115, 116] := by simpa using hkl
        have hxne := lnN_list HXL.out hk1
        have hxpos : 0 < x.kids.length := by cases hq : x.kids with | nil => exact absurd hq hxne | cons => simp
        rcases NdK_iff.1 HKN.out with ⟨hv2, he2⟩ | ⟨b2, o2, cap2, hv2, hc2, hm2, hr2⟩
        · exact absurd he2 hxne
        injection hv2 with f1 f2 f3
        subst f1 f3
        obtain ⟨ns, hns, hcs⟩ := hr2.flat
        have hb2 : b2 < N := by
          cases hq : x.kids with
          | nil => exact absurd hq hxne
          | cons y r => rw [hq] at hr2; simp only [RowK] at hr2; exact hr2.choose_spec.1
        have hxl := nodesL_length x.kids
        have hxn := Nd.nodes_kids x
        have hxm := HXM.out
        have HNS := hide (show _ ∧ _ from ⟨hns, hcs⟩)
        clear hns hcs hr2
        go_wp2_with (first
          | (at_builtin
             refine wpList_append_lies _ rfl _ _ 22 rfl (w.heap.size + 1) 24 i0 _ 3 56 under_nodes hi hz0 hz1 hz2 rfl (by decide) (.slice va ([] ++ lF (n.kids.take i)).length vc) _ vs rfl (ownsRow_bel HO.out hbW) ⟨b2, o2, none⟩ x.kids.length xcap ns rfl HNS.out.1.len (fun j u hu => by
               have hadd : (⟨b2, o2, none⟩ : Addr).add j = ⟨b2, o2 + j, none⟩ := by unfold Addr.add; split <;> simp_all
               rw [hadd]
               exact (hbW.at (by omega) _).trans ((hbr.at (b := b2) (by omega) _).trans (HNS.out.2 j u hu))) HNS.out.1.one hxpos (by have := HLL.out; unfold maxLen; omega) (by have := HLL.out; omega) (by simp; omega) _ rfl ?_
             intro g4 cap4 w4 hown4 hgrow4 hat4 hlt4
             have hb4 : Bel w w4 := (hbr.trans hbW).row hgrow4 (fun g hg => by have := (HO.out.lt g hg).1; omega)
             have hx4 : ∀ j, w4.cell? ⟨w.heap.size, j, none⟩ = wr.cell? ⟨w.heap.size, j, none⟩ := fun j => (World.cell?_of_block (hgrow4.block w.heap.size (by simp; omega) (fun e => by have := (HO.out.lt _ e.symm).1; omega))).trans (hbW.at hlw j)))
        have HG := hide (show _ ∧ _ from ⟨hown4, hgrow4⟩)
        clear hown4 hgrow4 hat4
        go_wp2_with fail
        go_roundw
        case rel =>
          obtain ⟨hown4, hgrow4⟩ := HG.out
          have hF : [] ++ lF (n.kids.take (i + 1)) = ([] ++ lF (n.kids.take i)) ++ x.kids := by rw [HSN.out, if_pos hk1, List.append_assoc]
          refine ⟨⟨i + 1, _, hlt, by go_num, ?_, by rw [hF]; exact HND.out.append HNS.out.1, hb4⟩, by have := hgrow4.size; simp at this; omega, fun j => (hx4 j).trans (hbox j)⟩
          rw [hF, List.length_append]
          exact hown4
        case measure => simp [intOf]; omega
    · have hie : i = n.kids.length := by omega
      subst hie
      have hown9 := HO.out
      have hll5 := HLL.out
      generalize hL : ([] ++ lF (n.kids.take n.kids.length)).length = L at hown9 hll5 ⊢
      have HO9 := hide hown9
      clear hown9
      go_wp2_with fail
      refine (ident_s _ _).mono ?_
      rintro e wi5 ⟨rfl, hTi5⟩
      have hwi5 : Bel w wi5 := Bel.trans (by repeat (first | exact Bel.refl _ | assumption | refine Bel.alloc ?_ _ | refine Bel.drew ?_ | refine Bel.set ?_ (by first | exact Nat.le_refl _ | (simp; done) | (simp; omega)) _)) hTi5
      have ci5 := hTi5.at (b := w.heap.size) (by first | omega | (simp; done) | (simp; omega))
      have li5 : w.heap.size < wi5.heap.size := by have := hTi5.le; (try simp at this); omega
      have ni5 : ¬ w.heap.size = wi5.heap.size := by omega
      have mi5 : ¬ wi5.heap.size = w.heap.size := by omega
      have HBi5 := hide (show Bel w (wi5.alloc (.cells #[.string ⟨#[110, 97, 109, 101]⟩, .string n.text, .slice none 0 0] 24)) from (by repeat (first | exact Bel.refl _ | assumption | refine Bel.alloc ?_ _ | refine Bel.drew ?_ | refine Bel.set ?_ (by first | exact Nat.le_refl _ | (simp; done) | (simp; omega)) _)))
      go_wp2_with (first
        | (at_builtin
           refine wpList_append_lies _ rfl _ _ 22 rfl (w.heap.size + 1) 24 i0 _ 3 56 under_nodes hi hz0 hz1 hz2 rfl (by decide) (.slice va L vc) L vs rfl (ownsRow_bel HO9.out (Bel.trans hTi5 (Bel.alloc (Bel.refl _) _))) ⟨wi5.heap.size, 0, none⟩ 1 1 [.string ⟨#[110, 97, 109, 101]⟩, .string n.text, .slice none 0 0] rfl rfl (World.news_of_block (heap_alloc_new wi5 (.cells #[.string ⟨#[110, 97, 109, 101]⟩, .string n.text, .slice none 0 0] 24))) (fun u hu => by simp at hu; rcases hu with rfl | rfl | rfl <;> rfl) (by decide) (by unfold maxLen; omega) (by omega) (by simp; omega) _ rfl ?_
           intro g5 cap5 wj5 hown5 hgrow5 hat5 hlt5
           have hwj5 : Bel w wj5 := HBi5.out.row hgrow5 (fun g hg => by have := (HO9.out.lt g hg).1; omega)
           have cj5 : ∀ j, wj5.cell? ⟨w.heap.size, j, none⟩ = (wi5.alloc (.cells #[.string ⟨#[110, 97, 109, 101]⟩, .string n.text, .slice none 0 0] 24)).cell? ⟨w.heap.size, j, none⟩ := fun j => World.cell?_of_block (hgrow5.block w.heap.size (by simp; omega) (fun e => by have := (HO9.out.lt _ e.symm).1; omega))))
      have HG5 := hide (show _ ∧ _ from ⟨hown5, hgrow5⟩)
      clear hown5 hgrow5 hat5
      go_wp2_with fail
      go_ret
      obtain ⟨hown5, hgrow5⟩ := HG5.out
      have hnd := HND.out.append (show Nds N w [Nd.mk ⟨#[110, 97, 109, 101]⟩ n.text []] [.string ⟨#[110, 97, 109, 101]⟩, .string n.text, .slice none 0 0] from ⟨.slice none 0 0, [], rfl, NdK_iff.2 (.inl ⟨⟨none, 0, rfl, Nat.zero_le _⟩, rfl⟩), rfl⟩)
      have hT : lF (n.kids.take n.kids.length) = lF n.kids := by rw [List.take_length]
      rw [hT] at hnd
      have e : ([] ++ lF n.kids ++ [Nd.mk ⟨#[110, 97, 109, 101]⟩ n.text []]).length = L + 1 := by rw [← hL, hT, List.length_append]; rfl
      have hq : BePost N ([] ++ lF n.kids ++ [Nd.mk ⟨#[110, 97, 109, 101]⟩ n.text []]) w (.returned (.slice (some ⟨g5, 0, none⟩) (L + 1) cap5)) wj5 := ⟨_, _, rfl, by rw [e]; exact hown5, hnd, hwj5⟩
      simpa using hq

set_option maxRecDepth 100000 in
set_option maxHeartbeats 4000000 in
theorem below_n (n : Nd) (hl : lnN n = true) (hm : n.nodes ≤ 400) (kv : Value) (w : World) (N : Nat) (hN : N ≤ w.heap.size) (hn : NdK N w n kv) (hlab : (n.kind.toList == [108, 97, 98, 101, 108]) = false) (hsel : (n.kind.toList == [115, 101, 108, 101, 99, 116]) = false) :
    Calls Tryz.prog 27 #[nodeV n kv] w (BePost N ([] ++ lF n.kids) w) := by
  obtain ⟨i0, hi, hz0, hz1, hz2⟩ := info_parts info_node
  obtain ⟨a, cap, hv, hcap, hmx⟩ := hn.slice
  subst hv
  have hnn := Nd.nodes_kids n
  have hlen := nodesL_length n.kids
  have hb0 : Bel w (w.alloc (.cells #[.string n.kind, .string n.text, .slice a n.kids.length cap] 24)) := (by repeat (first | exact Bel.refl _ | assumption | refine Bel.alloc ?_ _ | refine Bel.drew ?_ | refine Bel.set ?_ (by first | exact Nat.le_refl _ | (simp; done) | (simp; omega)) _))
  have HS := hide (NdK_iff.1 hn)
  have HLN := hide (lnN_kids hl)
  clear hn
  unfold nodeV
  go_enter Tryz.func27, Tryz.ntmps27
  go_wp2_with fail
  have hst : BlRel N w n.kids [] (.slice none 0 0) (.int .i64 0) (w.alloc (.cells #[.string n.kind, .string n.text, .slice a n.kids.length cap] 24)) := ⟨0, [], Nat.zero_le _, rfl, by simpa [lF] using World.ownsRow_nil _ _ _ _, by simp [lF, Nds], hb0⟩
  have HST := hide hst
  clear hst
  have l0 : w.heap.size < (w.alloc (.cells #[.string n.kind, .string n.text, .slice a n.kids.length cap] 24)).heap.size := by simp
  go_loopw [3, 18] (fun v c wr => BlRel N w n.kids [] v c wr ∧ w.heap.size < wr.heap.size ∧ (∀ j, wr.cell? ⟨w.heap.size, j, none⟩ = (w.alloc (.cells #[.string n.kind, .string n.text, .slice a n.kids.length cap] 24)).cell? ⟨w.heap.size, j, none⟩)) (fun _ c _ => n.kids.length - (intOf c).toNat)
  case atStart => exact ⟨HST.out, l0, fun j => rfl⟩
  case round =>
    obtain ⟨⟨i, vs, hin, rfl, hown, hnd, hbr⟩, hlw, hbox⟩ := hrel
    obtain ⟨va, vc, rfl⟩ := own_slice hown
    have HO := hide hown
    have HND := hide hnd
    have hne1 : ¬ w.heap.size = wr.heap.size := by omega
    have hne2 : ¬ wr.heap.size = w.heap.size := by omega
    have hll : ([] ++ lF (n.kids.take i)).length ≤ 400 := by
      have h1 := lF_len (n.kids.take i)
      have h2 := nodesL_take n.kids i
      simp only [List.length_append, List.length_cons, List.length_nil]
      omega
    have HLL := hide hll
    clear hown hnd hll
    by_cases hlt : i < n.kids.length
    · obtain ⟨x, hx⟩ : ∃ x, n.kids[i]? = some x := ⟨n.kids[i], by simp⟩
      rcases HS.out with ⟨hv, he⟩ | ⟨b, o, cap', hv, hc', hm', hr⟩
      · rw [he] at hlt; simp at hlt
      injection hv with e1 e2 e3
      subst e1 e3
      obtain ⟨xv, hbn, c0, c1, c2, hkn⟩ := hr.get hx
      obtain ⟨xa, xcap, hxv, -, -⟩ := hkn.slice
      subst hxv
      have s0 := (hbr.at (b := b) (by omega) (o + 3 * i)).trans c0
      have s1 := (hbr.at (b := b) (by omega) (o + 3 * i + 1)).trans c1
      have s2 := (hbr.at (b := b) (by omega) (o + 3 * i + 2)).trans c2
      rw [Nat.mul_comm] at s0 s1 s2
      have HSN := hide (lF_snoc n.kids i x hx)
      have HKN := hide hkn
      have HXL := hide (HLN.out x (List.mem_of_getElem? hx))
      have HXM := hide (nodesL_mem (List.mem_of_getElem? hx))
      clear hr c0 c1 c2 hkn hx
      have hbW : Bel wr (wr.alloc (.cells #[.string x.kind, .string x.text, .slice xa x.kids.length xcap] 24)) := (by repeat (first | exact Bel.refl _ | assumption | refine Bel.alloc ?_ _ | refine Bel.drew ?_ | refine Bel.set ?_ (by first | exact Nat.le_refl _ | (simp; done) | (simp; omega)) _))
      cases hkl : (x.kind.toList == [108, 105, 115, 116])
      · cases hkz : (x.kind.toList == [110, 111, 110, 101])
        · have hbX : Bel wr ((wr.alloc (.cells #[.string x.kind, .string x.text, .slice xa x.kids.length xcap] 24)).alloc (.cells #[.string x.kind, .string x.text, .slice xa x.kids.length xcap] 24)) := (by repeat (first | exact Bel.refl _ | assumption | refine Bel.alloc ?_ _ | refine Bel.drew ?_ | refine Bel.set ?_ (by first | exact Nat.le_refl _ | (simp; done) | (simp; omega)) _))
          go_wp2_with (first
            | (at_builtin
               refine wpList_append_lies _ rfl _ _ 22 rfl (w.heap.size + 1) 24 i0 _ 3 56 under_nodes hi hz0 hz1 hz2 rfl (by decide) (.slice va ([] ++ lF (n.kids.take i)).length vc) _ vs rfl (ownsRow_bel HO.out hbX) ⟨wr.heap.size + 1, 0, none⟩ 1 1 [.string x.kind, .string x.text, .slice xa x.kids.length xcap] rfl rfl (World.news_of_block (by simpa using heap_alloc_new (wr.alloc (.cells #[.string x.kind, .string x.text, .slice xa x.kids.length xcap] 24)) (.cells #[.string x.kind, .string x.text, .slice xa x.kids.length xcap] 24))) (fun u hu => by simp at hu; rcases hu with rfl | rfl | rfl <;> rfl) (by decide) (by have := HLL.out; unfold maxLen; omega) (by have := HLL.out; omega) (by simp; omega) _ rfl ?_
               intro g4 cap4 w4 hown4 hgrow4 hat4 hlt4
               have hb4 : Bel w w4 := (hbr.trans hbX).row hgrow4 (fun g hg => by have := (HO.out.lt g hg).1; omega)
               have hx4 : ∀ j, w4.cell? ⟨w.heap.size, j, none⟩ = wr.cell? ⟨w.heap.size, j, none⟩ := fun j => (World.cell?_of_block (hgrow4.block w.heap.size (by simp; omega) (fun e => by have := (HO.out.lt _ e.symm).1; omega))).trans (hbX.at hlw j)))
          have HG := hide (show _ ∧ _ from ⟨hown4, hgrow4⟩)
          clear hown4 hgrow4 hat4
          go_wp2_with fail
          go_roundw
          case rel =>
            obtain ⟨hown4, hgrow4⟩ := HG.out
            have hk1 : ¬ x.kind.toList = [108, 105, 115, 116] := by simpa using hkl
            have hk2 : ¬ x.kind.toList = [110, 111, 110, 101] := by simpa using hkz
            have hF : [] ++ lF (n.kids.take (i + 1)) = ([] ++ lF (n.kids.take i)) ++ [x] := by rw [HSN.out, if_neg hk1, if_neg hk2, List.append_assoc]
            refine ⟨⟨i + 1, _, hlt, by go_num, ?_, by rw [hF]; exact HND.out.append ⟨_, [], rfl, HKN.out, rfl⟩, hb4⟩, by have := hgrow4.size; simp at this; omega, fun j => (hx4 j).trans (hbox j)⟩
            rw [hF, List.length_append]
            exact hown4
          case measure => simp [intOf]; omega
        · go_wp2_with fail
          go_roundw
          case rel =>
            have hk2 : x.kind.toList = [110, 111, 110, 101] := by simpa using hkz
            have hk1 : ¬ x.kind.toList = [108, 105, 115, 116] := by simpa using hkl
            have hF : lF (n.kids.take (i + 1)) = lF (n.kids.take i) := by rw [HSN.out, if_neg hk1, if_pos hk2, List.append_nil]
            refine ⟨⟨i + 1, vs, hlt, by go_num, ?_, ?_, hbr.trans hbW⟩, by simp; omega, fun j => (hbW.at hlw j).trans (hbox j)⟩
            · rw [hF]; exact ownsRow_bel HO.out hbW
            · rw [hF]; exact HND.out
          case measure => simp [intOf]; omega
      · have hk1 : x.kind.toList = [108, 105, 115, 116] := by simpa using hkl
        have hxne := lnN_list HXL.out hk1
        have hxpos : 0 < x.kids.length := by cases hq : x.kids with | nil => exact absurd hq hxne | cons => simp
        rcases NdK_iff.1 HKN.out with ⟨hv2, he2⟩ | ⟨b2, o2, cap2, hv2, hc2, hm2, hr2⟩
        · exact absurd he2 hxne
        injection hv2 with f1 f2 f3
        subst f1 f3
        obtain ⟨ns, hns, hcs⟩ := hr2.flat
        have hb2 : b2 < N := by
          cases hq : x.kids with
          | nil => exact absurd hq hxne
          | cons y r => rw [hq] at hr2; simp only [RowK] at hr2; exact hr2.choose_spec.1
        have hxl := nodesL_length x.kids
        have hxn := Nd.nodes_kids x
        have hxm := HXM.out
        have HNS := hide (show _ ∧ _ from ⟨hns, hcs⟩)
        clear hns hcs hr2
        go_wp2_with (first
          | (at_builtin
             refine wpList_append_lies _ rfl _ _ 22 rfl (w.heap.size + 1) 24 i0 _ 3 56 under_nodes hi hz0 hz1 hz2 rfl (by decide) (.slice va ([] ++ lF (n.kids.take i)).length vc) _ vs rfl (ownsRow_bel HO.out hbW) ⟨b2, o2, none⟩ x.kids.length xcap ns rfl HNS.out.1.len (fun j u hu => by
               have hadd : (⟨b2, o2, none⟩ : Addr).add j = ⟨b2, o2 + j, none⟩ := by unfold Addr.add; split <;> simp_all
               rw [hadd]
               exact (hbW.at (by omega) _).trans ((hbr.at (b := b2) (by omega) _).trans (HNS.out.2 j u hu))) HNS.out.1.one hxpos (by have := HLL.out; unfold maxLen; omega) (by have := HLL.out; omega) (by simp; omega) _ rfl ?_
             intro g4 cap4 w4 hown4 hgrow4 hat4 hlt4
             have hb4 : Bel w w4 := (hbr.trans hbW).row hgrow4 (fun g hg => by have := (HO.out.lt g hg).1; omega)
             have hx4 : ∀ j, w4.cell? ⟨w.heap.size, j, none⟩ = wr.cell? ⟨w.heap.size, j, none⟩ := fun j => (World.cell?_of_block (hgrow4.block w.heap.size (by simp; omega) (fun e => by have := (HO.out.lt _ e.symm).1; omega))).trans (hbW.at hlw j)))
        have HG := hide (show _ ∧ _ from ⟨hown4, hgrow4⟩)
        clear hown4 hgrow4 hat4
        go_wp2_with fail
        go_roundw
        case rel =>
          obtain ⟨hown4, hgrow4⟩ := HG.out
          have hF : [] ++ lF (n.kids.take (i + 1)) = ([] ++ lF (n.kids.take i)) ++ x.kids := by rw [HSN.out, if_pos hk1, List.append_assoc]
          refine ⟨⟨i + 1, _, hlt, by go_num, ?_, by rw [hF]; exact HND.out.append HNS.out.1, hb4⟩, by have := hgrow4.size; simp at this; omega, fun j => (hx4 j).trans (hbox j)⟩
          rw [hF, List.length_append]
          exact hown4
        case measure => simp [intOf]; omega
    · have hie : i = n.kids.length := by omega
      subst hie
      have hT : lF (n.kids.take n.kids.length) = lF n.kids := by rw [List.take_length]
      go_wp2_with fail
      go_ret
      have hown := HO.out
      have hnd := HND.out
      rw [hT] at hown hnd
      have hq : BePost N ([] ++ lF n.kids) w (.returned (.slice va ([] ++ lF (n.kids.take n.kids.length)).length vc)) wr := ⟨_, vs, rfl, by rw [hT]; exact hown, hnd, hbr⟩
      simpa using hq

theorem below_any (n : Nd) (hl : lnN n = true) (hm : n.nodes ≤ 400) (kv : Value) (w : World) (N : Nat) (hN : N ≤ w.heap.size) (hn : NdK N w n kv) : Calls Tryz.prog 27 #[nodeV n kv] w (BePost N (belowN n) w) := by
  obtain ⟨k, t, ks⟩ := n
  cases h1 : (k.toList == [108, 97, 98, 101, 108])
  · have e1 : ¬ k.toList = [108, 97, 98, 101, 108] := by simpa using h1
    cases h2 : (k.toList == [115, 101, 108, 101, 99, 116])
    · have e2 : ¬ k.toList = [115, 101, 108, 101, 99, 116] := by simpa using h2
      have := below_n (.mk k t ks) hl hm kv w N hN hn h1 h2
      simpa [belowN, lF, e1, e2] using this
    · have e2 : k.toList = [115, 101, 108, 101, 99, 116] := by simpa using h2
      have := below_s (.mk k t ks) hl hm kv w N hN hn h1 h2
      simpa [belowN, lF, e2] using this
  · have e1 : k.toList = [108, 97, 98, 101, 108] := by simpa using h1
    have := below_l (.mk k t ks) hl hm kv w N hN hn h1 (by simp [e1])
    simpa [belowN, lF, e1] using this
end Go.Proofs.YtkkgfgllfbahlaaGreatFmt
