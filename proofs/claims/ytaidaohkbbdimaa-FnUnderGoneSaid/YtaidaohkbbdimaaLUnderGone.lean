/-
  FnUnderGone: whatever the operations and the prefix: deleting under a prefix deletes just what walking under it meets. No condition.
-/
import Derived.Test.YtaidaohkbbdimaaLB
namespace Go.Proofs.Ytaidaohkbbdimaa
open Go.RowKit

theorem ug_cut (ops : List Opr) (s : Bs) : rows (ops ++ [cutO s]) = nund (rows ops) s := by
  rw [rows_app]
  show step (rows ops) (cutO s) = _
  simp [step, cutO]
theorem ug_one (ops : List Opr) (s : Bs) : rows (ops ++ (und (rows ops) s).map dropOp) = nund (rows ops) s := by
  rw [rows_app, drops_und (srt_rows ops)]

set_option maxHeartbeats 4000000 in
set_option maxRecDepth 100000 in
theorem fnUnderGone_any {w : World} {A : Option Addr} {c : Nat} {ops : List Opr} (s : Bs) (h : Rd w 3 A ops.length (flat opc ops)) :
    Calls Try.prog 6 #[.slice A ops.length c, .string (ba s)] w (Ans w (.bool true)) := by
  have hZ := zzFits1_any (c := c) h
  have hS := ba_size s
  obtain ⟨S, hSS⟩ : ∃ S, S = ba s := ⟨_, rfl⟩
  rw [← hSS] at hS
  rw [← hSS]
  have HSS := Lib.hid hSS
  have HS := Lib.hid hS
  clear hSS hS
  have HR := Lib.hid h
  clear h
  cases h1 : fits1 ops with
  | false =>
    rw [h1] at hZ
    clear h1
    go_enter Try.func6, Try.ntmps6
    go_wp2_with fail
    refine hZ.mono ?_
    rintro e w1 ⟨rfl, hb1⟩
    go_wp2_with fail
    go_ret
    exact ⟨rfl, hb1⟩
  | true =>
    rw [h1] at hZ
    have hm := fits1_len h1
    clear h1
    by_cases h2 : S.size ≤ 2147483647
    · have hc2 : decide ((2147483647 : Int) < (S.size : Int)) = false := decide_eq_false (by omega)
      have hF := fun W (hW : Below w.heap.size w W) => fit_any (c := c) (HR.out.bel hW) hm
      cases h3 : fit ops with
      | false =>
        rw [h3] at hF
        have HF := Lib.hid hF
        clear h3 hm hF
        go_enter Try.func6, Try.ntmps6
        go_wp2_with fail
        refine hZ.mono ?_
        rintro e w1 ⟨rfl, hb1⟩
        go_wp2_with fail
        refine (HF.out w1 hb1).mono ?_
        rintro e w2 ⟨rfl, hb2⟩
        go_wp2_with fail
        go_ret
        exact ⟨rfl, hb1.trans (hb2.mono hb1.size)⟩
      | true =>
        rw [h3] at hF
        have HF := Lib.hid hF
        have H3 := Lib.hid (fit_oks h3)
        clear h3 hF
        by_cases h4 : S.size ≤ 200
        · have hc4 : decide ((200 : Int) < (S.size : Int)) = false := decide_eq_false (by omega)
          have H4 : Hid (s.length ≤ 200) := Lib.hid (by have := HS.out; omega)
          clear h2 h4
          go_enter Try.func6, Try.ntmps6
          go_wp2_with fail
          refine hZ.mono ?_
          rintro e w1 ⟨rfl, hb1⟩
          go_wp2_with fail
          refine (HF.out w1 hb1).mono ?_
          rintro e w2 ⟨rfl, hb2⟩
          have hb3 := hb1.trans (hb2.mono hb1.size)
          clear hb1 hb2 hZ HF
          go_wp2_with fail
          clear hc2 hc4 hm
          have hL3 := H3.out.1
          obtain ⟨U, hU⟩ : ∃ U, U = und (rows ops) s := ⟨_, rfl⟩
          obtain ⟨N, hN⟩ : ∃ N, N = nund (rows ops) s := ⟨_, rfl⟩
          obtain ⟨P, hP⟩ : ∃ P, P = U.map dropOp := ⟨_, rfl⟩
          obtain ⟨M, hM⟩ : ∃ M, M = ops ++ [cutO s] := ⟨_, rfl⟩
          obtain ⟨K, hK⟩ : ∃ K, K = ops ++ P := ⟨_, rfl⟩
          have hfr := fit_rows H3.out
          have hlu := len_und (rows ops) s
          have HO : Hid (Oks M) := Lib.hid (by rw [hM]; exact oks_app (oks_fit H3.out) (by simp) (by simp [cutO]; have := H4.out; omega))
          have HOK : Hid (Oks K) := Lib.hid (by rw [hK, hP, hU]; exact oks_two H3.out (oks_drops (Nat.le_trans hlu hfr.1) fun x hx => hfr.2 x (mem_und.1 hx).1))
          have HRM : Hid (rows M = N) := Lib.hid (by rw [hM, hN]; exact ug_cut ops s)
          have HRK : Hid (rows K = N) := Lib.hid (by rw [hK, hP, hU, hN]; exact ug_one ops s)
          have HUN : Hid (und N s = []) := Lib.hid (by rw [hN]; exact und_nund _ _)
          have HSUM : Hid ((rows ops).length = N.length + U.length) := Lib.hid (by rw [hN, hU]; exact (len_parts _ _).symm)
          have HLR : Hid ((rows ops).length ≤ 1000) := Lib.hid (by omega)
          have HLU : Hid (U.length ≤ 1000) := Lib.hid (by rw [hU]; omega)
          have HL1 : Hid (ops.length + P.length ≤ 100000) := Lib.hid (by rw [hP, List.length_map]; have := HLU.out; omega)
          have HU := Lib.hid hU
          have HP := Lib.hid hP
          have HM := Lib.hid hM
          have HK := Lib.hid hK
          have HLN : Hid (N.length ≤ 1000) := Lib.hid (by have := HSUM.out; have := HLR.out; omega)
          clear hU hN hP hM hK hfr hlu
          rw [HSS.out]
          refine (iUnder0_any s (HR.out.bel hb3) (oks_of (oks_fit H3.out))).mono ?_
          rintro e w11 ⟨Au, cu, rfl, hu, hc⟩
          rw [← HU.out] at hu ⊢
          have Hu := Lib.hid hu
          clear hu
          have hb11 := hb3.trans (hc.mono hb3.size)
          clear hc hb3
          go_wp2_with fail
          refine (then_lit (b := [cutO s]) HM.out (HR.out.bel hb11) rfl rfl (by have := H3.out.1; simp; omega) rfl).mono ?_
          rintro e w12 ⟨Am, cm, rfl, hm, hc⟩
          have Hm := Lib.hid hm
          clear hm
          replace Hu := Lib.hid (Hu.out.bel hc)
          have hb12 := hb11.trans (hc.mono hb11.size)
          clear hc hb11
          go_wp2_with fail
          refine (drops_any Hu.out HLU.out).mono ?_
          rintro e w13 ⟨Ap, cp, rfl, hp, hc⟩
          rw [← HP.out] at hp ⊢
          have Hp := Lib.hid hp
          clear hp
          replace Hu := Lib.hid (Hu.out.bel hc)
          replace Hm := Lib.hid (Hm.out.bel hc)
          have hb13 := hb12.trans (hc.mono hb12.size)
          clear hc hb12
          go_wp2_with fail
          refine (then_any (HR.out.bel hb13) Hp.out HL1.out).mono ?_
          rintro e w14 ⟨Ak, ck, rfl, hk, hc⟩
          rw [← HK.out] at hk ⊢
          have Hk := Lib.hid hk
          clear hk
          replace Hu := Lib.hid (Hu.out.bel hc)
          replace Hm := Lib.hid (Hm.out.bel hc)
          have hb14 := hb13.trans (hc.mono hb13.size)
          clear hc hb13
          clear Hp
          go_wp2_with fail
          refine (iWalk0_any Hm.out HO.out).mono ?_
          rintro e w15 ⟨Aa, ca, rfl, ha, hc⟩
          rw [HRM.out] at ha ⊢
          have Ha := Lib.hid ha
          clear ha
          replace Hu := Lib.hid (Hu.out.bel hc)
          replace Hm := Lib.hid (Hm.out.bel hc)
          replace Hk := Lib.hid (Hk.out.bel hc)
          have hb15 := hb14.trans (hc.mono hb14.size)
          clear hc hb14
          go_wp2_with fail
          refine (iWalk0_any Hk.out HOK.out).mono ?_
          rintro e w16 ⟨Ab, cb, rfl, hb, hc⟩
          rw [HRK.out] at hb ⊢
          have Hb := Lib.hid hb
          clear hb
          replace Hu := Lib.hid (Hu.out.bel hc)
          replace Hm := Lib.hid (Hm.out.bel hc)
          replace Ha := Lib.hid (Ha.out.bel hc)
          have hb16 := hb15.trans (hc.mono hb15.size)
          clear hc hb15
          clear Hk
          go_wp2_with fail
          refine (sameRows_any Ha.out Hb.out (by have := HLN.out; omega)).mono ?_
          rintro e w17 ⟨rfl, hc⟩
          rw [decide_eq_true rfl]
          replace Hu := Lib.hid (Hu.out.bel hc)
          replace Hm := Lib.hid (Hm.out.bel hc)
          have hb17 := hb16.trans (hc.mono hb16.size)
          clear hc hb16
          clear Ha Hb
          go_wp2_with fail
          refine (iUnder0_any s Hm.out HO.out).mono ?_
          rintro e w18 ⟨Az, cz, rfl, hz, hc⟩
          rw [HRM.out, HUN.out] at hz ⊢
          have Hz := Lib.hid hz
          clear hz
          replace Hu := Lib.hid (Hu.out.bel hc)
          replace Hm := Lib.hid (Hm.out.bel hc)
          have hb18 := hb17.trans (hc.mono hb17.size)
          clear hc hb17
          simp only [List.length_nil]
          have hw1 : IntKind.i64.wrap ((N.length : Int) + (U.length : Int)) = (N.length : Int) + (U.length : Int) := IntWalk.i64_in _ (by have := HLN.out; have := HLU.out; omega)
          clear Hz
          go_wp2_with fail
          refine (iLen_any Hm.out HO.out).mono ?_
          rintro e w19 ⟨rfl, hc⟩
          rw [HRM.out]
          replace Hu := Lib.hid (Hu.out.bel hc)
          have hb19 := hb18.trans (hc.mono hb18.size)
          clear hc hb18
          clear Hm
          go_wp2_with fail
          refine (iLen_any (HR.out.bel hb19) (oks_of (oks_fit H3.out))).mono ?_
          rintro e w20 ⟨rfl, hc⟩
          rw [HSUM.out]
          replace Hu := Lib.hid (Hu.out.bel hc)
          have hb20 := hb19.trans (hc.mono hb19.size)
          clear hc hb19
          go_wp2_with fail
          refine (sRows_any (HR.out.bel hb20) (by have := H3.out.1; omega)).mono ?_
          rintro e w21 ⟨Ab, cb, rfl, hb, hc⟩
          have Hb := Lib.hid hb
          clear hb
          replace Hu := Lib.hid (Hu.out.bel hc)
          have hb21 := hb20.trans (hc.mono hb20.size)
          clear hc hb20
          go_wp2_with fail
          refine (sUnder_any s Hb.out HLR.out).mono ?_
          rintro e w22 ⟨Av, cv, rfl, hv, hc⟩
          rw [← HU.out] at hv ⊢
          have Hv := Lib.hid hv
          clear hv
          replace Hu := Lib.hid (Hu.out.bel hc)
          have hb22 := hb21.trans (hc.mono hb21.size)
          clear hc hb21
          clear Hb
          go_wp2_with fail
          go_ret
          first | exact ⟨rfl, hb22⟩ | exact ⟨rfl, hb22.alloc hb22.size _⟩
        · have hc4 : decide ((200 : Int) < (S.size : Int)) = true := decide_eq_true (by omega)
          clear h2 h4 hm
          go_enter Try.func6, Try.ntmps6
          go_wp2_with fail
          refine hZ.mono ?_
          rintro e w1 ⟨rfl, hb1⟩
          go_wp2_with fail
          refine (HF.out w1 hb1).mono ?_
          rintro e w2 ⟨rfl, hb2⟩
          go_wp2_with fail
          go_ret
          exact ⟨rfl, hb1.trans (hb2.mono hb1.size)⟩
    · have hc2 : decide ((2147483647 : Int) < (S.size : Int)) = true := decide_eq_true (by omega)
      clear h2 hm
      go_enter Try.func6, Try.ntmps6
      go_wp2_with fail
      refine hZ.mono ?_
      rintro e w1 ⟨rfl, hb1⟩
      go_wp2_with fail
      go_ret
      exact ⟨rfl, hb1⟩

end Go.Proofs.Ytaidaohkbbdimaa

namespace Go.Proofs.Ytaidaohkbbdimaa.fnUnderGone
open Go.ChangeShapes Go.WideShapes Go.ChangeAt Go.RowKit Go.ChangeMaps

set_option maxRecDepth 100000 in
theorem lifted (os : Os) (started : os.Started) (H : Type) (enc : TypeId × Value → H) :
    ReturnsInHanded {} Try.checked os 6 .any (Rows.fnUnderGoneSpec.pre6 enc Try.prog Try.f6 Rows.fnUnderGoneRow.domain false) (Rows.fnUnderGoneSpec.post enc Try.prog Try.f6 false true false false) := by
  refine returnsInHanded_of_change (C := Try.checked) own started (by kernel_rfl) Try.func6
    (ChangeSpec.witness6 (enc := enc) (C := Try.checked) false ⟨#[], #[.slice none 0 0, .string ⟨#[]⟩], []⟩ 8 (by kernel_rfl) (by kernel_rfl) (by kernel_rfl) (by kernel_rfl)) ?_
  intro W base args ds gs before hval0 hW hcnd _
  have hval : ∀ (j : Nat) t v, Try.f6.params[j]? = some t → args[j]? = some v → Value.okWide Try.prog W .any base t v := hval0
  have hW' := hW
  obtain ⟨p, q, hA0, hV, rfl, hfz, hnd⟩ := hW
  obtain ⟨rfl, rfl⟩ := trodVars_none hV
  rw [List.append_nil] at hW'
  have hA : DataW.TrodAll enc Try.prog W 0 (fun _ => true) true Try.f6.params.toList args.toList ds p := hA0
  have hA1 := hA
  rw [Try.params6] at hA hval
  obtain ⟨v0, vs0, d0, ds0, p0, q0, hargs, rfl, rfl, h0, r0⟩ := trodAll_cons hA
  obtain ⟨v1, vs1, d1, ds1, p1, q1, rfl, rfl, rfl, h1, r1⟩ := trodAll_cons r0
  obtain ⟨rfl, rfl, rfl⟩ := trodAll_nil r1
  obtain rfl : args = #[v0, v1] := by cases args; simp_all
  obtain ⟨A0, c0, ops0, rfl, hR0⟩ := open_ops (hval 0 31 v0 rfl rfl) h0
  obtain ⟨s1, rfl, _, _, _⟩ := open_string Try.underlying9 (hval 1 9 v1 rfl rfl) h1
  have hC := fnUnderGone_any (c := c0) s1.data.toList hR0
  rw [ba_bs] at hC
  exact hC.mono fun e W' ha => law_post hW' hA1 rfl rfl (by rw [Try.params6]; decide +kernel) (by kernel_rfl) rfl ha

theorem proved : Rows.FnUnderGoneSaid :=
  OpenClaim.holds_of_wide 6 Try.f6 rfl rfl rfl rfl rfl rfl rfl ⟨rfl, rfl, rfl, rfl, rfl⟩ rfl rfl rfl rfl rfl (by kernel_rfl) Try.func6 (by kernel_rfl)
    (of_decide_eq_true (by kernel_rfl)) (by unfold Func.isWrapper; first | (rw [if_pos (by decide +kernel)]; kernel_rfl) | (rw [if_neg (by decide +kernel)]; exact ⟨rfl, rfl⟩))
    (fun os started H enc _ => lifted os started H enc)

end Go.Proofs.Ytaidaohkbbdimaa.fnUnderGone
