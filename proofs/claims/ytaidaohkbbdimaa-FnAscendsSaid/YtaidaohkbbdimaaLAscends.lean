/-
  FnAscends: whatever the operations: keys ascend, each once. No condition.
-/
import Derived.Test.YtaidaohkbbdimaaLB
namespace Go.Proofs.Ytaidaohkbbdimaa
open Go.RowKit

theorem srt_next {l : List Rw} (h : Srt l) {j : Nat} (hj : j + 1 < l.length) : Op.bytesLess l[j].1 l[j + 1].1 = true :=
  List.pairwise_iff_getElem.1 h j (j + 1) (by omega) hj (Nat.lt_succ_self j)

set_option maxHeartbeats 4000000 in
set_option maxRecDepth 100000 in
theorem fnAscends_any {w : World} {A : Option Addr} {c : Nat} {ops : List Opr} (h : Rd w 3 A ops.length (flat opc ops)) :
    Calls Try.prog 12 #[.slice A ops.length c] w (Ans w (.bool true)) := by
  have hZ := zzFits1_any (c := c) h
  have HR := Lib.hid h
  clear h
  cases h1 : fits1 ops with
  | false =>
    rw [h1] at hZ
    clear h1
    go_enter Try.func12, Try.ntmps12
    go_wp2_with fail
    refine hZ.mono ?_
    rintro e w1 ⟨rfl, hb1⟩
    go_wp2_with fail
    go_ret
    exact ⟨rfl, hb1⟩
  | true =>
    rw [h1] at hZ
    have hm := fits1_len h1
    clear h1
    have hF := fun W (hW : Below w.heap.size w W) => fit_any (c := c) (HR.out.bel hW) hm
    cases h3 : fit ops with
    | false =>
      rw [h3] at hF
      have HF := Lib.hid hF
      clear h3 hm hF
      go_enter Try.func12, Try.ntmps12
      go_wp2_with fail
      refine hZ.mono ?_
      rintro e w1 ⟨rfl, hb1⟩
      go_wp2_with fail
      refine (HF.out w1 hb1).mono ?_
      rintro e w2 ⟨rfl, hb2⟩
      go_wp2_with fail
      go_ret
      exact ⟨rfl, hb1.trans (hb2.mono hb1.size)⟩
    | true =>
      rw [h3] at hF
      have HF := Lib.hid hF
      have H3 := Lib.hid (fit_oks h3)
      clear h3 hF
      go_enter Try.func12, Try.ntmps12
      go_wp2_with fail
      refine hZ.mono ?_
      rintro e w1 ⟨rfl, hb1⟩
      go_wp2_with fail
      refine (HF.out w1 hb1).mono ?_
      rintro e w2 ⟨rfl, hb2⟩
      have hb3 := hb1.trans (hb2.mono hb1.size)
      clear hb1 hb2 hZ HF
      go_wp2_with fail
      clear hm
      have HLR : Hid ((rows ops).length ≤ 1000) := Lib.hid (by have := H3.out.1; have := len_rows ops; omega)
      have HSR := Lib.hid (srt_rows ops)
      obtain ⟨R, hRR⟩ : ∃ R, R = rows ops := ⟨_, rfl⟩
      rw [← hRR] at HLR HSR
      have HRR := Lib.hid hRR
      clear hRR
      refine (iWalk0_any (HR.out.bel hb3) (oks_of (oks_fit H3.out))).mono ?_
      rintro e w11 ⟨Aa, ca, rfl, ha, hc⟩
      rw [← HRR.out] at ha ⊢
      have Ha := Lib.hid ha
      clear ha
      have hb11 := hb3.trans (hc.mono hb3.size)
      clear hc hb3
      have HBB := Lib.hid hb11
      obtain ⟨L, hL⟩ : ∃ L, L = R.length := ⟨_, rfl⟩
      have hlen : L ≤ 1000 := by have := HLR.out; omega
      rw [← hL] at Ha
      rw [← hL]
      have HL := Lib.hid hL
      clear hL
      go_wp2_with fail
      go_loopg [4] L (fun g v4 wr => ∃ (j : Nat), v4 = .int .i64 ((j : Int) + 1) ∧ j ≤ L ∧ L - j ≤ g ∧ Below w11.heap.size w11 wr)
      case atStart => exact ⟨0, rfl, Nat.zero_le _, by omega, Below.refl _ _⟩
      case round =>
        obtain ⟨j, rfl, hjL, hg, hb⟩ := hrel
        by_cases hj : j + 1 < L
        · have hj1 : j + 1 < R.length := by have := HL.out; omega
          have hj0 : j < R.length := by omega
          have hlt : decide ((j : Int) + 1 < (L : Int)) = true := decide_eq_true (by omega)
          have hRA := Ha.out.bel hb
          rw [HL.out] at hRA
          obtain ⟨ad, hA, hadl, c0, c1⟩ := hRA.rw_ hj0
          obtain ⟨ad2, hA2, hadl2, d0, d1⟩ := hRA.rw_ hj1
          rw [hA] at hA2
          injection hA2 with hA2
          subst hA2
          subst hA
          clear hRA
          have hbl : Op.bytesLess (ba R[j].1).toList (ba R[j + 1].1).toList = true := by rw [ba_tl, ba_tl]; exact srt_next HSR.out hj1
          have hw0 : IntKind.i64.wrap ((j : Int) + 1 - 1) = (j : Int) := by rw [IntWalk.i64_in _ (by omega)]; omega
          have hw1 : IntKind.i64.wrap (j : Int) = (j : Int) := IntWalk.i64_in _ (by omega)
          have hw2 : IntKind.i64.wrap ((j : Int) + 1 + 1) = (j : Int) + 1 + 1 := IntWalk.i64_in _ (by omega)
          have hi0 : (0 : Int) ≤ (j : Int) := by omega
          have hi1 : (j : Int) < (L : Int) := by omega
          have hi2 : (0 : Int) ≤ (j : Int) + 1 := by omega
          have hi3 : (j : Int) + 1 < (L : Int) := by omega
          generalize ba R[j].1 = x at *
          generalize ba R[j + 1].1 = y at *
          clear c1 d1
          go_wp2_with fail
          go_quiet (fail)
          go_wp2_with fail
          go_roundg (L - (j + 1))
          case measure => omega
          case rel => exact ⟨j + 1, by go_num, by omega, Nat.le_refl _, below_drewN hb _⟩
        · have hlt : decide ((j : Int) + 1 < (L : Int)) = false := decide_eq_false (by omega)
          have hbx := HBB.out.trans (hb.mono HBB.out.size)
          go_wp2_with fail
          refine (sRows_any (HR.out.bel hbx) (by have := H3.out.1; omega)).mono ?_
          rintro e w12 ⟨A1, c1, rfl, h1, hc⟩
          have hby := hbx.trans (hc.mono hbx.size)
          rw [← HRR.out, ← HL.out]
          clear h1 hc hbx
          go_wp2_with fail
          go_ret
          exact ⟨rfl, hby⟩

end Go.Proofs.Ytaidaohkbbdimaa

namespace Go.Proofs.Ytaidaohkbbdimaa.fnAscends
open Go.ChangeShapes Go.WideShapes Go.ChangeAt Go.RowKit Go.ChangeMaps

set_option maxRecDepth 100000 in
theorem lifted (os : Os) (started : os.Started) (H : Type) (enc : TypeId × Value → H) :
    ReturnsInHanded {} Try.checked os 12 .any (Rows.fnAscendsSpec.pre6 enc Try.prog Try.f12 Rows.fnAscendsRow.domain false) (Rows.fnAscendsSpec.post enc Try.prog Try.f12 false true false false) := by
  refine returnsInHanded_of_change (C := Try.checked) own started (by kernel_rfl) Try.func12
    (ChangeSpec.witness6 (enc := enc) (C := Try.checked) false ⟨#[], #[.slice none 0 0], []⟩ 8 (by kernel_rfl) (by kernel_rfl) (by kernel_rfl) (by kernel_rfl)) ?_
  intro W base args ds gs before hval0 hW hcnd _
  have hval : ∀ (j : Nat) t v, Try.f12.params[j]? = some t → args[j]? = some v → Value.okWide Try.prog W .any base t v := hval0
  have hW' := hW
  obtain ⟨p, q, hA0, hV, rfl, hfz, hnd⟩ := hW
  obtain ⟨rfl, rfl⟩ := trodVars_none hV
  rw [List.append_nil] at hW'
  have hA : DataW.TrodAll enc Try.prog W 0 (fun _ => true) true Try.f12.params.toList args.toList ds p := hA0
  have hA1 := hA
  rw [Try.params12] at hA hval
  obtain ⟨v0, vs0, d0, ds0, p0, q0, hargs, rfl, rfl, h0, r0⟩ := trodAll_cons hA
  obtain ⟨rfl, rfl, rfl⟩ := trodAll_nil r0
  obtain rfl : args = #[v0] := by cases args; simp_all
  obtain ⟨A0, c0, ops0, rfl, hR0⟩ := open_ops (hval 0 31 v0 rfl rfl) h0
  have hC := fnAscends_any (c := c0) hR0
  exact hC.mono fun e W' ha => law_post hW' hA1 rfl rfl (by rw [Try.params12]; decide +kernel) (by kernel_rfl) rfl ha

theorem proved : Rows.FnAscendsSaid :=
  OpenClaim.holds_of_wide 12 Try.f12 rfl rfl rfl rfl rfl rfl rfl ⟨rfl, rfl, rfl, rfl, rfl⟩ rfl rfl rfl rfl rfl (by kernel_rfl) Try.func12 (by kernel_rfl)
    (of_decide_eq_true (by kernel_rfl)) (by unfold Func.isWrapper; first | (rw [if_pos (by decide +kernel)]; kernel_rfl) | (rw [if_neg (by decide +kernel)]; exact ⟨rfl, rfl⟩))
    (fun os started H enc _ => lifted os started H enc)

end Go.Proofs.Ytaidaohkbbdimaa.fnAscends
