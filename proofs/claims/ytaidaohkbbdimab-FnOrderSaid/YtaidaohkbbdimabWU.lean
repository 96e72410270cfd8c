/-
  The walks, part U: slices.Reverse over operations; Turned.
-/
import Derived.Test.YtaidaohkbbdimabWT
namespace Go.Proofs.Ytaidaohkbbdimab
open Go.RowKit

/-- The list l with its first and last i places changed about. -/
def Half2 {α : Type} (l cur : List α) (i : Nat) : Prop := cur.length = l.length ∧ ∀ k, k < l.length → cur[k]? = if k < i ∨ l.length ≤ k + i then l[l.length - 1 - k]? else l[k]?
theorem Half2.start {α : Type} (l : List α) : Half2 l l 0 := ⟨rfl, fun k hk => by rw [if_neg (by omega)]⟩
theorem Half2.end {α : Type} {l cur : List α} {i : Nat} (h : Half2 l cur i) (hi : l.length ≤ i + i + 1) : cur = l.reverse := by
  refine List.ext_getElem? fun k => ?_
  by_cases hk : k < l.length
  · rw [h.2 k hk, List.getElem?_reverse hk]
    split
    · rfl
    · rw [show l.length - 1 - k = k by omega]
  · rw [List.getElem?_eq_none (by rw [h.1]; omega), List.getElem?_eq_none (by rw [List.length_reverse]; omega)]
theorem Half2.step {α : Type} {l cur : List α} {i m : Nat} (h : Half2 l cur i) (hm : m + i + 1 = l.length) (him : i < m) (h1 : i < cur.length) (h2 : m < cur.length) : Half2 l ((cur.set i cur[m]).set m cur[i]) (i + 1) := by
  have hn := h.1
  refine ⟨by simp [hn], fun k hk => ?_⟩
  have ei : cur[i]? = l[i]? := by rw [h.2 i (by omega), if_neg (by omega)]
  have em : cur[m]? = l[m]? := by rw [h.2 m (by omega), if_neg (by omega)]
  rw [List.getElem?_eq_getElem h1] at ei
  rw [List.getElem?_eq_getElem h2] at em
  rw [List.getElem?_set]
  by_cases k1 : m = k
  · subst k1
    rw [if_pos rfl, if_pos (by simp; omega), if_pos (by omega), ei]
    congr 1; omega
  · rw [if_neg k1, List.getElem?_set]
    by_cases k2 : i = k
    · subst k2
      rw [if_pos rfl, if_pos (by omega), if_pos (by omega), em]
      congr 1; omega
    · rw [if_neg k2, h.2 k hk]
      by_cases k3 : k < i ∨ l.length ≤ k + i
      · rw [if_pos k3, if_pos (by omega)]
      · rw [if_neg k3, if_neg (by omega)]

theorem flat_set3 : ∀ (l : List Opr) (i : Nat) (x : Opr), i < l.length → flat opc (l.set i x) = (((flat opc l).set (i * 3) (.int .i64 x.kind)).set (i * 3 + 1) (.string (ba x.key))).set (i * 3 + 2) (.int .i64 x.val)
  | [], _, _, h => by simp at h
  | y :: r, 0, x, _ => by simp [flat, opc]
  | y :: r, i + 1, x, h => by
    have h1 := flat_set3 r i x (by simpa using h)
    rw [List.set_cons_succ, flat_cons, flat_cons, h1, show (i + 1) * 3 = i * 3 + 1 + 1 + 1 by omega]
    simp [opc]

/-- Block g holds operations, then spare cells. -/
def Rop (w : World) (g : Nat) (sp : List Value) (l : List Opr) : Prop := Bk w g 53 (flat opc l ++ sp).toArray
theorem Rop.put {w : World} {g i : Nat} {sp : List Value} {l : List Opr} (h : Rop w g sp l) (hi : i < l.length) (x : Opr) :
    Rop (((w.setCell ⟨g, i * 3, none⟩ (.int .i64 x.kind)).setCell ⟨g, i * 3 + 1, none⟩ (.string (ba x.key))).setCell ⟨g, i * 3 + 2, none⟩ (.int .i64 x.val)) g sp (l.set i x) := by
  have h1 := ((Bk.set_ h (i * 3) (.int .i64 x.kind)).set_ (i * 3 + 1) (.string (ba x.key))).set_ (i * 3 + 2) (.int .i64 x.val)
  have hl : (flat opc l).length = l.length * 3 := flat_len opc_len l
  have e : (flat opc (l.set i x) ++ sp).toArray = (((flat opc l ++ sp).toArray.setIfInBounds (i * 3) (.int .i64 x.kind)).setIfInBounds (i * 3 + 1) (.string (ba x.key))).setIfInBounds (i * 3 + 2) (.int .i64 x.val) := by
    simp only [List.setIfInBounds_toArray]
    rw [flat_set3 _ _ _ hi, List.set_append_left _ _ (by omega), List.set_append_left _ _ (by simp; omega), List.set_append_left _ _ (by simp; omega)]
  unfold Rop
  rw [e]; exact h1
theorem Rop.at_ {w : World} {g i j : Nat} {sp : List Value} {l : List Opr} (h : Rop w g sp l) (hi : i < l.length) (hj : j < 3) : w.cell? ⟨g, i * 3 + j, none⟩ = (opc l[i])[j]? := by
  have h1 := Bk.cell h (i * 3 + j)
  rw [h1, List.getElem?_toArray, List.getElem?_append_left (by rw [flat_len opc_len]; omega), flat_get opc_len l i j hi hj]
theorem Rop.rd {w : World} {g : Nat} {sp : List Value} {l : List Opr} (h : Rop w g sp l) : Rd w 3 (some ⟨g, 0, none⟩) l.length (flat opc l) := by
  refine ⟨flat_len opc_len l, fun _ => ⟨_, rfl, Bk.lt h, fun j u hu => ?_⟩⟩
  have h1 := Bk.cell h j
  have hj : j < (flat opc l).length := (List.getElem?_eq_some_iff.1 hu).1
  rw [List.getElem?_toArray, List.getElem?_append_left hj, hu] at h1
  have : (⟨g, 0, none⟩ : Addr).add j = ⟨g, j, none⟩ := by
    unfold Addr.add
    split
    · rename_i hj; subst hj; rfl
    · simp
  rw [this]; exact h1
theorem Rop.of_own {w : World} {B n : Nat} {v : Value} {l : List Opr} (h : w.ownsRow B 53 3 v n (flat opc l)) (hn : 0 < n) : ∃ g cap sp, v = .slice (some ⟨g, 0, none⟩) n cap ∧ B ≤ g ∧ Rop w g sp l := by
  rcases h.2 with ⟨_, h1⟩ | ⟨g, cap, cur, h1, hB, hg, _, _, _, ht⟩
  · omega
  · refine ⟨g, cap, cur.toList.drop (n * 3), h1, hB, ?_⟩
    unfold Rop Bk
    rw [← ht, List.take_append_drop, Array.toArray_toList]
    exact hg

set_option maxHeartbeats 4000000 in
set_option maxRecDepth 100000 in
theorem reverseOp_any {w : World} {g cap : Nat} {sp : List Value} {l : List Opr} (h : Rop w g sp l) (hl : l.length ≤ 1000) :
    Calls Try.prog 44 #[.slice (some ⟨g, 0, none⟩) l.length cap] w fun e w' => e = .returned (.tuple #[]) ∧ Rop w' g sp l.reverse ∧ Mut w w' [g] := by
  obtain ⟨L, hL⟩ : ∃ L, L = l.length := ⟨_, rfl⟩
  rw [← hL] at hl
  rw [← hL]
  have HL := Lib.hid hL
  have HS := Lib.hid h
  clear hL h
  have hw0 : IntKind.i64.wrap ((L : Int) - 1) = (L : Int) - 1 := IntWalk.i64_in _ (by omega)
  go_enter Try.func44, Try.ntmps44
  go_wp2_with fail
  clear hw0
  go_loopg [2, 3] L (fun gs v2 v3 wr => ∃ (i : Nat) (cur : List Opr), v2 = .int .i64 (i : Int) ∧ v3 = .int .i64 ((L : Int) - 1 - i) ∧ i ≤ L ∧ L - i ≤ gs ∧ Hid (Half2 l cur i ∧ Rop wr g sp cur ∧ Mut w wr [g]))
  case atStart => exact ⟨0, l, rfl, by simp, by omega, by omega, Lib.hid ⟨Half2.start l, HS.out, Mut.refl _ _⟩⟩
  case round =>
    obtain ⟨i, cur, rfl, rfl, hiL, hg, HH⟩ := hrel
    by_cases hi : i + i + 1 < L
    · obtain ⟨m, hm⟩ : ∃ m : Nat, (L : Int) - 1 - i = (m : Int) := ⟨L - 1 - i, by omega⟩
      rw [hm]
      have hlt : decide ((i : Int) < (m : Int)) = true := decide_eq_true (by omega)
      have hltN : decide (i < m) = true := decide_eq_true (by omega)
      have himN : i < m := by omega
      have hlen := HH.out.1.1
      have h1 : i < cur.length := by rw [hlen, ← HL.out]; omega
      have h2 : m < cur.length := by rw [hlen, ← HL.out]; omega
      have k0 := HH.out.2.1.at_ h1 (show 0 < 3 by omega)
      have k1 := HH.out.2.1.at_ h1 (show 1 < 3 by omega)
      have k2 := HH.out.2.1.at_ h1 (show 2 < 3 by omega)
      have k3 := HH.out.2.1.at_ h2 (show 0 < 3 by omega)
      have k4 := HH.out.2.1.at_ h2 (show 1 < 3 by omega)
      have k5 := HH.out.2.1.at_ h2 (show 2 < 3 by omega)
      have f0 := Bk.frozen HH.out.2.1 (i * 3)
      have f1 := Bk.frozen HH.out.2.1 (i * 3 + 1)
      have f2 := Bk.frozen HH.out.2.1 (i * 3 + 2)
      have f3 := Bk.frozen HH.out.2.1 (m * 3)
      have f4 := Bk.frozen HH.out.2.1 (m * 3 + 1)
      have f5 := Bk.frozen HH.out.2.1 (m * 3 + 2)
      simp only [opc, Nat.add_zero, List.getElem?_cons_zero, List.getElem?_cons_succ] at k0 k1 k2 k3 k4 k5
      have FIN := Lib.hid (And.intro (Half2.step HH.out.1 (by rw [← HL.out]; omega) (by omega) h1 h2) ((HH.out.2.1.put h1 cur[m]).put (i := m) (by simpa using h2) cur[i]))
      have HMU := Lib.hid ((((((HH.out.2.2.setCell (p := ⟨g, i * 3, none⟩) (Or.inl (by simp)) (.int .i64 cur[m].kind)).setCell (p := ⟨g, i * 3 + 1, none⟩) (Or.inl (by simp)) (.string (ba cur[m].key))).setCell (p := ⟨g, i * 3 + 2, none⟩) (Or.inl (by simp)) (.int .i64 cur[m].val)).setCell (p := ⟨g, m * 3, none⟩) (Or.inl (by simp)) (.int .i64 cur[i].kind)).setCell (p := ⟨g, m * 3 + 1, none⟩) (Or.inl (by simp)) (.string (ba cur[i].key))).setCell (p := ⟨g, m * 3 + 2, none⟩) (Or.inl (by simp)) (.int .i64 cur[i].val))
      have hij : ¬ i * 3 = m * 3 := by omega
      have hij2 : ¬ m * 3 = i * 3 := by omega
      have hi0 : (0 : Int) ≤ (i : Int) := by omega
      have hi1 : (i : Int) < (L : Int) := by omega
      have hm0 : (0 : Int) ≤ (m : Int) := by omega
      have hm1 : (m : Int) < (L : Int) := by omega
      have hw1 : IntKind.i64.wrap ((i : Int) + 1) = (i : Int) + 1 := IntWalk.i64_in _ (by omega)
      have hw2 : IntKind.i64.wrap ((m : Int) - 1) = (m : Int) - 1 := IntWalk.i64_in _ (by omega)
      have HM : Hid ((L : Int) - 1 - (i : Int) = (m : Int)) := Lib.hid hm
      clear hlen HH hm
      generalize cur[i] = x at *
      generalize cur[m] = y at *
      go_wp2_with fail
      go_region
      go_wp2_with fail
      go_roundg (L - (i + 1))
      case measure => omega
      case rel => exact ⟨i + 1, (cur.set i y).set m x, by go_num, by rw [show (m : Int) - 1 = (L : Int) - 1 - ((i + 1 : Nat) : Int) by have := HM.out; omega], by omega, Nat.le_refl _, Lib.hid ⟨FIN.out.1, Bk.drew FIN.out.2, HMU.out.drew⟩⟩
    · have hlt : decide ((i : Int) < (L : Int) - 1 - (i : Int)) = false := decide_eq_false (by omega)
      have HF : Hid (Rop wr g sp l.reverse ∧ Mut w wr [g]) := Lib.hid ⟨by rw [← Half2.end HH.out.1 (by rw [← HL.out]; omega)]; exact HH.out.2.1, HH.out.2.2⟩
      go_wp2_with fail
      go_end0
      exact ⟨rfl, HF.out⟩

set_option maxHeartbeats 1000000 in
set_option maxRecDepth 100000 in
theorem reverseOp_nil (w : World) (A : Option Addr) (cap : Nat) : Calls Try.prog 44 #[.slice A 0 cap] w fun e w' => e = .returned (.tuple #[]) ∧ w' = w := by
  have hw0 : IntKind.i64.wrap ((0 : Int) - 1) = -1 := rfl
  go_enter Try.func44, Try.ntmps44
  go_wp2_with fail
  refine wp_loop_rounds 1 ?_
  rw [rounds_succ]
  go_wp2_with fail
  go_end0
  exact ⟨rfl, rfl⟩

set_option maxHeartbeats 2000000 in
set_option maxRecDepth 100000 in
theorem turned_any {w : World} {A : Option Addr} {c : Nat} {l : List Opr} (h : Rd w 3 A l.length (flat opc l)) (hl : l.length ≤ 1000) :
    Calls Try.prog 22 #[.slice A l.length c] w (Gives opc 3 w l.reverse) := by
  have hb0 : Below w.heap.size w (w.alloc (.cells #[] 53)) := (Below.refl _ w).alloc (Nat.le_refl _) _
  have HOW : Hid (Acc 53 opc 3 w (w.alloc (.cells #[] 53)) (.slice (some ⟨w.heap.size, 0, none⟩) 0 0) []) := Lib.hid ⟨own_empty (Bk.new w _ _) (Nat.le_refl _), hb0⟩
  have HA := Lib.hid (h.bel hb0)
  have HL := Lib.hid hl
  clear h hb0 hl
  go_enter Try.func22, Try.ntmps22
  go_wp2_with (at_builtin; refine wpList_many rec_op rfl rfl HOW.out.row HOW.out.bel.size (by have := HL.out; simp; omega) (by omega) rfl rfl rfl HA.out ?_; intro v1 w1 hap
               have HOW1 := Lib.hid (HOW.out.app hap)
               clear hap)
  by_cases h0 : l.length = 0
  · have hlz : l = [] := List.eq_nil_of_length_eq_zero h0
    subst hlz
    obtain ⟨A1, c1, hv⟩ := own_len HOW1.out.row
    have HG := Lib.hid HOW1.out.gives
    subst hv
    have hN := reverseOp_nil w1 A1 c1
    clear h0 HOW1
    go_wp2_with fail
    refine hN.mono ?_
    rintro e w2 ⟨rfl, hw⟩
    subst w2
    go_wp2_with fail
    go_ret
    exact HG.out
  · obtain ⟨g, cap, sp, hv, hB, hr⟩ := Rop.of_own HOW1.out.row (by simp; omega)
    have HBL := Lib.hid HOW1.out.bel
    have HB := Lib.hid hB
    subst hv
    have hR := reverseOp_any (cap := cap) hr (by have := HL.out; simpa using this)
    have HR := Lib.hid hR
    clear hR hr hB HOW1 h0
    go_wp2_with fail
    refine HR.out.mono ?_
    rintro e w2 ⟨rfl, hr2, hm⟩
    have HRD := Lib.hid hr2.rd
    have HM := Lib.hid hm
    clear hr2 hm
    go_wp2_with fail
    go_ret
    refine ⟨some ⟨g, 0, none⟩, cap, by simp, by simpa using HRD.out, HBL.out.trans (HM.out.below (by simpa using HB.out) HBL.out.size)⟩

end Go.Proofs.Ytaidaohkbbdimab
