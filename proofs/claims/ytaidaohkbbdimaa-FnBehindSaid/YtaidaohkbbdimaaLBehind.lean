/-
  FnBehind: whatever the two lists of operations: operations behind others go on from what these make. No condition.
-/
import Derived.Test.YtaidaohkbbdimaaLB
namespace Go.Proofs.Ytaidaohkbbdimaa
open Go.RowKit

theorem behind_rows (a b : List Opr) : rows ((rows a).map putOp ++ b) = rows (a ++ b) := by
  rw [rows_app, rows_own (srt_rows a), rows_app]

set_option maxHeartbeats 4000000 in
set_option maxRecDepth 100000 in
theorem fnBehind_any {w : World} {A A2 : Option Addr} {c c2 : Nat} {a b : List Opr} (h : Rd w 3 A a.length (flat opc a)) (k : Rd w 3 A2 b.length (flat opc b)) :
    Calls Try.prog 14 #[.slice A a.length c, .slice A2 b.length c2] w (Ans w (.bool true)) := by
  have HR := Lib.hid h
  have HR2 := Lib.hid k
  clear h k
  go_enter Try.func14, Try.ntmps14
  go_wp2_with fail
  refine (zzFits1_any (c := c) HR.out).mono ?_
  rintro e w1 ⟨rfl, hb1⟩
  cases e1 : fits1 a with
  | false =>
    clear e1
    go_wp2_with fail
    go_ret
    exact ⟨rfl, hb1⟩
  | true =>
    have HM1 := Lib.hid (fits1_len e1)
    clear e1
    go_wp2_with fail
    refine (zzFits1_any (c := c2) (HR2.out.bel hb1)).mono ?_
    rintro e w2 ⟨rfl, hb⟩
    have hb2 := hb1.trans (hb.mono hb1.size)
    clear hb hb1
    cases e2 : fits1 b with
    | false =>
      clear e2
      go_wp2_with fail
      go_ret
      exact ⟨rfl, hb2⟩
    | true =>
      have HM2 := Lib.hid (fits1_len e2)
      clear e2
      go_wp2_with fail
      refine (fit_any (c := c) (HR.out.bel hb2) HM1.out).mono ?_
      rintro e w3 ⟨rfl, hb⟩
      have hb3 := hb2.trans (hb.mono hb2.size)
      clear hb hb2
      cases e3 : fit a with
      | false =>
        clear e3
        go_wp2_with fail
        go_ret
        exact ⟨rfl, hb3⟩
      | true =>
        go_wp2_with fail
        refine (fit_any (c := c2) (HR2.out.bel hb3) HM2.out).mono ?_
        rintro e w4 ⟨rfl, hb⟩
        have hb4 := hb3.trans (hb.mono hb3.size)
        clear hb hb3
        cases e4 : fit b with
        | false =>
          clear e4
          go_wp2_with fail
          go_ret
          exact ⟨rfl, hb4⟩
        | true =>
          have HF1 := Lib.hid (fit_oks e3)
          have HF2 := Lib.hid (fit_oks e4)
          clear e3 e4
          obtain ⟨P, hP⟩ : ∃ P, P = (rows a).map putOp := ⟨_, rfl⟩
          obtain ⟨M, hM⟩ : ∃ M, M = P ++ b := ⟨_, rfl⟩
          obtain ⟨K, hK⟩ : ∃ K, K = a ++ b := ⟨_, rfl⟩
          have hfr := fit_rows HF1.out
          have HO : Hid (Oks M) := Lib.hid (by rw [hM, hP]; exact oks_two (oks_puts hfr.1 hfr.2) HF2.out)
          have HOK : Hid (Oks K) := Lib.hid (by rw [hK]; exact oks_two HF1.out HF2.out)
          have HRM : Hid (rows M = rows K) := Lib.hid (by rw [hM, hP, hK]; exact behind_rows a b)
          have HLR : Hid ((rows a).length ≤ 1000) := Lib.hid (by omega)
          have HL1 : Hid (P.length + b.length ≤ 100000) := Lib.hid (by rw [hP, List.length_map]; have := HF2.out.1; omega)
          have HL2 : Hid (a.length + b.length ≤ 100000) := Lib.hid (by have := HF1.out.1; have := HF2.out.1; omega)
          have HLK : Hid ((rows K).length ≤ 1000) := Lib.hid (by have := len_rows K; have := HOK.out.len; omega)
          have HP := Lib.hid hP
          have HM := Lib.hid hM
          have HK := Lib.hid hK
          clear hP hM hK hfr
          go_wp2_with fail
          refine (iWalk0_any (HR.out.bel hb4) (oks_of (oks_fit HF1.out))).mono ?_
          rintro e w11 ⟨Ar, cr, rfl, hr, hc⟩
          have Hr := Lib.hid hr
          clear hr
          have hb11 := hb4.trans (hc.mono hb4.size)
          clear hc hb4
          go_wp2_with fail
          refine (ops_any Hr.out HLR.out).mono ?_
          rintro e w12 ⟨Ao, co, rfl, ho, hc⟩
          rw [← HP.out] at ho ⊢
          have Ho := Lib.hid ho
          clear ho
          have hb12 := hb11.trans (hc.mono hb11.size)
          clear hc hb11
          clear Hr
          go_wp2_with fail
          refine (then_any Ho.out (HR2.out.bel hb12) HL1.out).mono ?_
          rintro e w13 ⟨Am, cm, rfl, hm, hc⟩
          rw [← HM.out] at hm ⊢
          have Hm := Lib.hid hm
          clear hm
          have hb13 := hb12.trans (hc.mono hb12.size)
          clear hc hb12
          clear Ho
          go_wp2_with fail
          refine (iWalk0_any Hm.out HO.out).mono ?_
          rintro e w14 ⟨Ax, cx, rfl, hx, hc⟩
          rw [HRM.out] at hx ⊢
          have Hx := Lib.hid hx
          clear hx
          have hb14 := hb13.trans (hc.mono hb13.size)
          clear hc hb13
          clear Hm
          go_wp2_with fail
          refine (then_any (HR.out.bel hb14) (HR2.out.bel hb14) HL2.out).mono ?_
          rintro e w15 ⟨Ak, ck, rfl, hk, hc⟩
          rw [← HK.out] at hk ⊢
          have Hk := Lib.hid hk
          clear hk
          replace Hx := Lib.hid (Hx.out.bel hc)
          have hb15 := hb14.trans (hc.mono hb14.size)
          clear hc hb14
          go_wp2_with fail
          refine (iWalk0_any Hk.out HOK.out).mono ?_
          rintro e w16 ⟨Ay, cy, rfl, hy, hc⟩
          have Hy := Lib.hid hy
          clear hy
          replace Hx := Lib.hid (Hx.out.bel hc)
          have hb16 := hb15.trans (hc.mono hb15.size)
          clear hc hb15
          clear Hk
          go_wp2_with fail
          refine (sameRows_any Hx.out Hy.out (by have := HLK.out; omega)).mono ?_
          rintro e w17 ⟨rfl, hc⟩
          rw [decide_eq_true rfl]
          replace Hx := Lib.hid (Hx.out.bel hc)
          have hb17 := hb16.trans (hc.mono hb16.size)
          clear hc hb16
          clear Hy
          go_wp2_with fail
          refine (then_any (HR.out.bel hb17) (HR2.out.bel hb17) HL2.out).mono ?_
          rintro e w18 ⟨Ak, ck, rfl, hk, hc⟩
          rw [← HK.out] at hk ⊢
          have Hk := Lib.hid hk
          clear hk
          replace Hx := Lib.hid (Hx.out.bel hc)
          have hb18 := hb17.trans (hc.mono hb17.size)
          clear hc hb17
          go_wp2_with fail
          refine (sRows_any Hk.out HOK.out.len).mono ?_
          rintro e w19 ⟨Ay, cy, rfl, hy, hc⟩
          have Hy := Lib.hid hy
          clear hy
          replace Hx := Lib.hid (Hx.out.bel hc)
          have hb19 := hb18.trans (hc.mono hb18.size)
          clear hc hb18
          clear Hk
          go_wp2_with fail
          refine (sameRows_any Hx.out Hy.out (by have := HLK.out; omega)).mono ?_
          rintro e w20 ⟨rfl, hc⟩
          rw [decide_eq_true rfl]
          have hb20 := hb19.trans (hc.mono hb19.size)
          clear hc hb19
          clear Hx Hy
          go_wp2_with fail
          go_ret
          first | exact ⟨rfl, hb20⟩ | exact ⟨rfl, hb20.alloc hb20.size _⟩

end Go.Proofs.Ytaidaohkbbdimaa

namespace Go.Proofs.Ytaidaohkbbdimaa.fnBehind
open Go.ChangeShapes Go.WideShapes Go.ChangeAt Go.RowKit Go.ChangeMaps

set_option maxRecDepth 100000 in
theorem lifted (os : Os) (started : os.Started) (H : Type) (enc : TypeId × Value → H) :
    ReturnsInHanded {} Try.checked os 14 .any (Rows.fnBehindSpec.pre6 enc Try.prog Try.f14 Rows.fnBehindRow.domain false) (Rows.fnBehindSpec.post enc Try.prog Try.f14 false true false false) := by
  refine returnsInHanded_of_change (C := Try.checked) own started (by kernel_rfl) Try.func14
    (ChangeSpec.witness6 (enc := enc) (C := Try.checked) false ⟨#[], #[.slice none 0 0, .slice none 0 0], []⟩ 8 (by kernel_rfl) (by kernel_rfl) (by kernel_rfl) (by kernel_rfl)) ?_
  intro W base args ds gs before hval0 hW hcnd _
  have hval : ∀ (j : Nat) t v, Try.f14.params[j]? = some t → args[j]? = some v → Value.okWide Try.prog W .any base t v := hval0
  have hW' := hW
  obtain ⟨p, q, hA0, hV, rfl, hfz, hnd⟩ := hW
  obtain ⟨rfl, rfl⟩ := trodVars_none hV
  rw [List.append_nil] at hW'
  have hA : DataW.TrodAll enc Try.prog W 0 (fun _ => true) true Try.f14.params.toList args.toList ds p := hA0
  have hA1 := hA
  rw [Try.params14] at hA hval
  obtain ⟨v0, vs0, d0, ds0, p0, q0, hargs, rfl, rfl, h0, r0⟩ := trodAll_cons hA
  obtain ⟨v1, vs1, d1, ds1, p1, q1, rfl, rfl, rfl, h1, r1⟩ := trodAll_cons r0
  obtain ⟨rfl, rfl, rfl⟩ := trodAll_nil r1
  obtain rfl : args = #[v0, v1] := by cases args; simp_all
  obtain ⟨A0, c0, ops0, rfl, hR0⟩ := open_ops (hval 0 31 v0 rfl rfl) h0
  obtain ⟨A1, c1, ops1, rfl, hR1⟩ := open_ops (hval 1 31 v1 rfl rfl) h1
  have hC := fnBehind_any (c := c0) (c2 := c1) hR0 hR1
  exact hC.mono fun e W' ha => law_post hW' hA1 rfl rfl (by rw [Try.params14]; decide +kernel) (by kernel_rfl) rfl ha

theorem proved : Rows.FnBehindSaid :=
  OpenClaim.holds_of_wide 14 Try.f14 rfl rfl rfl rfl rfl rfl rfl ⟨rfl, rfl, rfl, rfl, rfl⟩ rfl rfl rfl rfl rfl (by kernel_rfl) Try.func14 (by kernel_rfl)
    (of_decide_eq_true (by kernel_rfl)) (by unfold Func.isWrapper; first | (rw [if_pos (by decide +kernel)]; kernel_rfl) | (rw [if_neg (by decide +kernel)]; exact ⟨rfl, rfl⟩))
    (fun os started H enc _ => lifted os started H enc)

end Go.Proofs.Ytaidaohkbbdimaa.fnBehind
