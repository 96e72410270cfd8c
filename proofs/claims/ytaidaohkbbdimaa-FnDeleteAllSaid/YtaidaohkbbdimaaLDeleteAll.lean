/-
  FnDeleteAll: whatever the operations: with all entries deleted one by one nothing is left. No condition.
-/
import Derived.Test.YtaidaohkbbdimaaLB
namespace Go.Proofs.Ytaidaohkbbdimaa
open Go.RowKit

theorem all_rows (ops : List Opr) : rows (ops ++ (rows ops).map dropOp) = [] := by
  rw [rows_app, drops_all]

set_option maxHeartbeats 4000000 in
set_option maxRecDepth 100000 in
theorem fnDeleteAll_any {w : World} {A : Option Addr} {c : Nat} {ops : List Opr} (h : Rd w 3 A ops.length (flat opc ops)) :
    Calls Try.prog 10 #[.slice A ops.length c] w (Ans w (.bool true)) := by
  have hZ := zzFits1_any (c := c) h
  have HR := Lib.hid h
  clear h
  cases h1 : fits1 ops with
  | false =>
    rw [h1] at hZ
    clear h1
    go_enter Try.func10, Try.ntmps10
    go_wp2_with fail
    refine hZ.mono ?_
    rintro e w1 ⟨rfl, hb1⟩
    go_wp2_with fail
    go_ret
    exact ⟨rfl, hb1⟩
  | true =>
    rw [h1] at hZ
    have hm := fits1_len h1
    clear h1
    have hF := fun W (hW : Below w.heap.size w W) => fit_any (c := c) (HR.out.bel hW) hm
    cases h3 : fit ops with
    | false =>
      rw [h3] at hF
      have HF := Lib.hid hF
      clear h3 hm hF
      go_enter Try.func10, Try.ntmps10
      go_wp2_with fail
      refine hZ.mono ?_
      rintro e w1 ⟨rfl, hb1⟩
      go_wp2_with fail
      refine (HF.out w1 hb1).mono ?_
      rintro e w2 ⟨rfl, hb2⟩
      go_wp2_with fail
      go_ret
      exact ⟨rfl, hb1.trans (hb2.mono hb1.size)⟩
    | true =>
      rw [h3] at hF
      have HF := Lib.hid hF
      have H3 := Lib.hid (fit_oks h3)
      clear h3 hF
      go_enter Try.func10, Try.ntmps10
      go_wp2_with fail
      refine hZ.mono ?_
      rintro e w1 ⟨rfl, hb1⟩
      go_wp2_with fail
      refine (HF.out w1 hb1).mono ?_
      rintro e w2 ⟨rfl, hb2⟩
      have hb3 := hb1.trans (hb2.mono hb1.size)
      clear hb1 hb2 hZ HF
      go_wp2_with fail
      clear hm
      obtain ⟨P, hP⟩ : ∃ P, P = (rows ops).map dropOp := ⟨_, rfl⟩
      obtain ⟨M, hM⟩ : ∃ M, M = ops ++ P := ⟨_, rfl⟩
      have hfr := fit_rows H3.out
      have HO : Hid (Oks M) := Lib.hid (by rw [hM, hP]; exact oks_two H3.out (oks_drops hfr.1 hfr.2))
      have HRW : Hid (rows M = []) := Lib.hid (by rw [hM, hP]; exact all_rows ops)
      have HM := Lib.hid hM
      have HP := Lib.hid hP
      have HLR : Hid ((rows ops).length ≤ 1000) := Lib.hid (by omega)
      have HL1 : Hid (ops.length + P.length ≤ 100000) := Lib.hid (by have := H3.out.1; rw [hP, List.length_map]; omega)
      clear hM hP hfr
      refine (iWalk0_any (HR.out.bel hb3) (oks_of (oks_fit H3.out))).mono ?_
      rintro e w11 ⟨Ar, cr, rfl, hr, hc⟩
      have Hr := Lib.hid hr
      clear hr
      have hb11 := hb3.trans (hc.mono hb3.size)
      clear hc hb3
      go_wp2_with fail
      refine (drops_any Hr.out HLR.out).mono ?_
      rintro e w12 ⟨Ap, cp, rfl, hp, hc⟩
      rw [← HP.out] at hp ⊢
      have Hp := Lib.hid hp
      clear hp
      replace Hr := Lib.hid (Hr.out.bel hc)
      have hb12 := hb11.trans (hc.mono hb11.size)
      clear hc hb11
      go_wp2_with fail
      refine (then_any (HR.out.bel hb12) Hp.out HL1.out).mono ?_
      rintro e w13 ⟨Am, cm, rfl, hm, hc⟩
      rw [← HM.out] at hm ⊢
      have Hm := Lib.hid hm
      clear hm
      replace Hr := Lib.hid (Hr.out.bel hc)
      have hb13 := hb12.trans (hc.mono hb12.size)
      clear hc hb12
      clear Hp
      go_wp2_with fail
      refine (iMin_any Hm.out HO.out (Or.inr HRW.out)).mono ?_
      rintro e w14 ⟨rfl, hc⟩
      rw [HRW.out]
      simp only [List.head?_nil, Option.isSome_none, rwv, orow, Option.getD_none]
      replace Hr := Lib.hid (Hr.out.bel hc)
      replace Hm := Lib.hid (Hm.out.bel hc)
      have hb14 := hb13.trans (hc.mono hb13.size)
      clear hc hb13
      go_wp2_with fail
      have hc := (Below.refl w14.heap.size w14).alloc (Nat.le_refl _) (.cells #[.string (ba []), .int .i64 0] 28)
      replace Hr := Lib.hid (Hr.out.bel hc)
      replace Hm := Lib.hid (Hm.out.bel hc)
      have hb15 := hb14.trans (hc.mono hb14.size)
      clear hc hb14
      have HBq1 := Lib.hid (Bk.new w14 28 #[.string (ba []), .int .i64 0])
      refine (iMax_any Hm.out HO.out (Or.inr HRW.out)).mono ?_
      rintro e w16 ⟨rfl, hc⟩
      rw [HRW.out]
      simp only [List.getLast?_nil, Option.isSome_none, rwv, orow, Option.getD_none]
      replace Hr := Lib.hid (Hr.out.bel hc)
      replace Hm := Lib.hid (Hm.out.bel hc)
      replace HBq1 := Lib.hid (HBq1.out.of (hc.block _ HBq1.out.lt))
      have hb16 := hb15.trans (hc.mono hb15.size)
      clear hc hb15
      go_wp2_with fail
      have hc := (Below.refl w16.heap.size w16).alloc (Nat.le_refl _) (.cells #[.string (ba []), .int .i64 0] 28)
      replace Hr := Lib.hid (Hr.out.bel hc)
      replace Hm := Lib.hid (Hm.out.bel hc)
      replace HBq1 := Lib.hid (HBq1.out.of (hc.block _ HBq1.out.lt))
      have hb17 := hb16.trans (hc.mono hb16.size)
      clear hc hb16
      have HBq2 := Lib.hid (Bk.new w16 28 #[.string (ba []), .int .i64 0])
      clear HBq1 HBq2
      refine (sRows_any (HR.out.bel hb17) (by have := H3.out.1; omega)).mono ?_
      rintro e w18 ⟨Ab, cb, rfl, hb, hc⟩
      have Hb := Lib.hid hb
      clear hb
      replace Hr := Lib.hid (Hr.out.bel hc)
      replace Hm := Lib.hid (Hm.out.bel hc)
      have hb18 := hb17.trans (hc.mono hb17.size)
      clear hc hb17
      go_wp2_with fail
      refine (iLen_any Hm.out HO.out).mono ?_
      rintro e w19 ⟨rfl, hc⟩
      rw [HRW.out]
      simp only [List.length_nil]
      replace Hr := Lib.hid (Hr.out.bel hc)
      replace Hm := Lib.hid (Hm.out.bel hc)
      replace Hb := Lib.hid (Hb.out.bel hc)
      have hb19 := hb18.trans (hc.mono hb18.size)
      clear hc hb18
      go_wp2_with fail
      refine (iWalk0_any Hm.out HO.out).mono ?_
      rintro e w20 ⟨Az, cz, rfl, hz, hc⟩
      rw [HRW.out] at hz ⊢
      have Hz := Lib.hid hz
      clear hz
      replace Hr := Lib.hid (Hr.out.bel hc)
      replace Hm := Lib.hid (Hm.out.bel hc)
      replace Hb := Lib.hid (Hb.out.bel hc)
      have hb20 := hb19.trans (hc.mono hb19.size)
      clear hc hb19
      simp only [List.length_nil]
      go_wp2_with fail
      go_ret
      first | exact ⟨rfl, hb20⟩ | exact ⟨rfl, hb20.alloc hb20.size _⟩

end Go.Proofs.Ytaidaohkbbdimaa

namespace Go.Proofs.Ytaidaohkbbdimaa.fnDeleteAll
open Go.ChangeShapes Go.WideShapes Go.ChangeAt Go.RowKit Go.ChangeMaps

set_option maxRecDepth 100000 in
theorem lifted (os : Os) (started : os.Started) (H : Type) (enc : TypeId × Value → H) :
    ReturnsInHanded {} Try.checked os 10 .any (Rows.fnDeleteAllSpec.pre6 enc Try.prog Try.f10 Rows.fnDeleteAllRow.domain false) (Rows.fnDeleteAllSpec.post enc Try.prog Try.f10 false true false false) := by
  refine returnsInHanded_of_change (C := Try.checked) own started (by kernel_rfl) Try.func10
    (ChangeSpec.witness6 (enc := enc) (C := Try.checked) false ⟨#[], #[.slice none 0 0], []⟩ 8 (by kernel_rfl) (by kernel_rfl) (by kernel_rfl) (by kernel_rfl)) ?_
  intro W base args ds gs before hval0 hW hcnd _
  have hval : ∀ (j : Nat) t v, Try.f10.params[j]? = some t → args[j]? = some v → Value.okWide Try.prog W .any base t v := hval0
  have hW' := hW
  obtain ⟨p, q, hA0, hV, rfl, hfz, hnd⟩ := hW
  obtain ⟨rfl, rfl⟩ := trodVars_none hV
  rw [List.append_nil] at hW'
  have hA : DataW.TrodAll enc Try.prog W 0 (fun _ => true) true Try.f10.params.toList args.toList ds p := hA0
  have hA1 := hA
  rw [Try.params10] at hA hval
  obtain ⟨v0, vs0, d0, ds0, p0, q0, hargs, rfl, rfl, h0, r0⟩ := trodAll_cons hA
  obtain ⟨rfl, rfl, rfl⟩ := trodAll_nil r0
  obtain rfl : args = #[v0] := by cases args; simp_all
  obtain ⟨A0, c0, ops0, rfl, hR0⟩ := open_ops (hval 0 31 v0 rfl rfl) h0
  have hC := fnDeleteAll_any (c := c0) hR0
  exact hC.mono fun e W' ha => law_post hW' hA1 rfl rfl (by rw [Try.params10]; decide +kernel) (by kernel_rfl) rfl ha

theorem proved : Rows.FnDeleteAllSaid :=
  OpenClaim.holds_of_wide 10 Try.f10 rfl rfl rfl rfl rfl rfl rfl ⟨rfl, rfl, rfl, rfl, rfl⟩ rfl rfl rfl rfl rfl (by kernel_rfl) Try.func10 (by kernel_rfl)
    (of_decide_eq_true (by kernel_rfl)) (by unfold Func.isWrapper; first | (rw [if_pos (by decide +kernel)]; kernel_rfl) | (rw [if_neg (by decide +kernel)]; exact ⟨rfl, rfl⟩))
    (fun os started H enc _ => lifted os started H enc)

end Go.Proofs.Ytaidaohkbbdimaa.fnDeleteAll
