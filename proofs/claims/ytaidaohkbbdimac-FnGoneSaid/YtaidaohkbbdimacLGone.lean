/-
  FnGone: whatever the operations and the key: what was deleted is not found, and all else is. No condition.
-/
import Derived.Test.YtaidaohkbbdimacLB
namespace Go.Proofs.Ytaidaohkbbdimac
open Go.RowKit

theorem gone_rows (ops : List Opr) (s : Bs) : rows (ops ++ [delO s]) = drop1 (rows ops) s := by
  rw [rows_app]
  show step (rows ops) (delO s) = _
  simp [step, delO]

set_option maxHeartbeats 4000000 in
set_option maxRecDepth 100000 in
theorem fnGone_any {w : World} {A : Option Addr} {c : Nat} {ops : List Opr} (s : Bs) (h : Rd w 3 A ops.length (flat opc ops)) :
    Calls Try.prog 3 #[.slice A ops.length c, .string (ba s)] w (Ans w (.bool true)) := by
  have hZ := zzFits1_any (c := c) h
  have hS := ba_size s
  obtain ⟨S, hSS⟩ : ∃ S, S = ba s := ⟨_, rfl⟩
  rw [← hSS] at hS
  rw [← hSS]
  have HSS := Lib.hid hSS
  have HS := Lib.hid hS
  clear hSS hS
  have HR := Lib.hid h
  clear h
  cases h1 : fits1 ops with
  | false =>
    rw [h1] at hZ
    clear h1
    go_enter Try.func3, Try.ntmps3
    go_wp2_with fail
    refine hZ.mono ?_
    rintro e w1 ⟨rfl, hb1⟩
    go_wp2_with fail
    go_ret
    exact ⟨rfl, hb1⟩
  | true =>
    rw [h1] at hZ
    have hm := fits1_len h1
    clear h1
    by_cases h2 : S.size ≤ 2147483647
    · have hc2 : decide ((2147483647 : Int) < (S.size : Int)) = false := decide_eq_false (by omega)
      have hF := fun W (hW : Below w.heap.size w W) => fit_any (c := c) (HR.out.bel hW) hm
      cases h3 : fit ops with
      | false =>
        rw [h3] at hF
        have HF := Lib.hid hF
        clear h3 hm hF
        go_enter Try.func3, Try.ntmps3
        go_wp2_with fail
        refine hZ.mono ?_
        rintro e w1 ⟨rfl, hb1⟩
        go_wp2_with fail
        refine (HF.out w1 hb1).mono ?_
        rintro e w2 ⟨rfl, hb2⟩
        go_wp2_with fail
        go_ret
        exact ⟨rfl, hb1.trans (hb2.mono hb1.size)⟩
      | true =>
        rw [h3] at hF
        have HF := Lib.hid hF
        have H3 := Lib.hid (fit_oks h3)
        clear h3 hF
        by_cases h4 : S.size ≤ 200
        · have hc4 : decide ((200 : Int) < (S.size : Int)) = false := decide_eq_false (by omega)
          have H4 : Hid (s.length ≤ 200) := Lib.hid (by have := HS.out; omega)
          clear h2 h4
          go_enter Try.func3, Try.ntmps3
          go_wp2_with fail
          refine hZ.mono ?_
          rintro e w1 ⟨rfl, hb1⟩
          go_wp2_with fail
          refine (HF.out w1 hb1).mono ?_
          rintro e w2 ⟨rfl, hb2⟩
          have hb3 := hb1.trans (hb2.mono hb1.size)
          clear hb1 hb2 hZ HF
          go_wp2_with fail
          clear hc2 hc4 hm
          have hL3 := H3.out.1
          obtain ⟨M, hM⟩ : ∃ M, M = ops ++ [delO s] := ⟨_, rfl⟩
          obtain ⟨B, hB⟩ : ∃ B, B = (look (rows ops) s).isSome := ⟨_, rfl⟩
          obtain ⟨V, hV⟩ : ∃ V, V = (look (rows ops) s).getD 0 := ⟨_, rfl⟩
          obtain ⟨N, hN⟩ : ∃ N, N = (rows M).length := ⟨_, rfl⟩
          have HM := Lib.hid hM
          have HN := Lib.hid hN
          have HO : Hid (Oks M) := Lib.hid (by rw [hM]; exact oks_app (oks_fit H3.out) (by simp) (by simp [delO]; have := H4.out; omega))
          have HLK : Hid (look (rows M) s = none) := Lib.hid (by rw [hM, gone_rows]; exact look_drop1 _ _)
          have HLE : Hid ((rows ops).length = N + if B then 1 else 0) := Lib.hid (by rw [hN, hM, hB, gone_rows]; exact (len_drop1 (srt_rows ops) s).symm)
          have HMl : Hid (M.length ≤ 1000) := Lib.hid (by rw [hM]; simp; omega)
          have HBV := Lib.hid (And.intro hB hV)
          have hn : N ≤ 1000 := by have h1 := HLE.out; have := len_rows ops; omega
          clear hM hB hV hN
          refine (then_lit (b := [delO s]) HM.out (HR.out.bel hb3) rfl (by rw [HSS.out]; rfl) (by have := H3.out.1; simp; omega) rfl).mono ?_
          rintro e w11 ⟨Am, cm, rfl, hm, hc⟩
          have Hm := Lib.hid hm
          clear hm
          have hb11 := hb3.trans (hc.mono hb3.size)
          clear hc hb3
          rw [HSS.out]
          go_wp2_with fail
          refine (iGet_any s Hm.out HO.out).mono ?_
          rintro e w12 ⟨rfl, hc⟩
          rw [HLK.out]
          simp only [Option.getD_none, Option.isSome_none]
          replace Hm := Lib.hid (Hm.out.bel hc)
          have hb12 := hb11.trans (hc.mono hb11.size)
          clear hc hb11
          go_wp2_with fail
          refine (iGet_any s (HR.out.bel hb12) (oks_of (oks_fit H3.out))).mono ?_
          rintro e w13 ⟨rfl, hc⟩
          rw [← HBV.out.1, ← HBV.out.2]
          replace Hm := Lib.hid (Hm.out.bel hc)
          have hb13 := hb12.trans (hc.mono hb12.size)
          clear hc hb12
          go_wp2_with fail
          refine (iLen_any (HR.out.bel hb13) (oks_of (oks_fit H3.out))).mono ?_
          rintro e w14 ⟨rfl, hc⟩
          rw [HLE.out]
          replace Hm := Lib.hid (Hm.out.bel hc)
          have hb14 := hb13.trans (hc.mono hb13.size)
          clear hc hb13
          clear HLE HBV
          have hw1 : IntKind.i64.wrap ((N : Int) + 1 - 1) = (N : Int) := by rw [IntWalk.i64_in _ (by omega)]; omega
          have hw2 : IntKind.i64.wrap (N : Int) = (N : Int) := IntWalk.i64_in _ (by omega)
          have hge : decide ((0 : Int) ≤ (N : Int)) = true := decide_eq_true (by omega)
          have hge2 : (0 : Int) ≤ (N : Int) := by omega
          cases B with
          | true =>
            simp only [if_true]
            go_wp2_with fail
            refine (iLen_any Hm.out HO.out).mono ?_
            rintro e w15 ⟨rfl, hc⟩
            rw [← HN.out]
            replace Hm := Lib.hid (Hm.out.bel hc)
            have hb15 := hb14.trans (hc.mono hb14.size)
            clear hc hb14
            go_wp2_with fail
            refine (iWalk0_any Hm.out HO.out).mono ?_
            rintro e w16 ⟨Aa, ca, rfl, ha, hc⟩
            have Ha := Lib.hid ha
            clear ha
            replace Hm := Lib.hid (Hm.out.bel hc)
            have hb16 := hb15.trans (hc.mono hb15.size)
            clear hc hb15
            rw [← HN.out]
            go_wp2_with fail
            refine (sRows_any Hm.out HMl.out).mono ?_
            rintro e w17 ⟨Ab, cb, rfl, hb, hc⟩
            have Hb := Lib.hid hb
            clear hb
            replace Hm := Lib.hid (Hm.out.bel hc)
            replace Ha := Lib.hid (Ha.out.bel hc)
            have hb17 := hb16.trans (hc.mono hb16.size)
            clear hc hb16
            rw [← HN.out]
            go_wp2_with fail
            go_ret
            first | exact ⟨rfl, hb17⟩ | exact ⟨rfl, hb17.alloc hb17.size _⟩
          | false =>
            simp only [if_false, Bool.false_eq_true, Nat.add_zero]
            go_wp2_with fail
            refine (iLen_any Hm.out HO.out).mono ?_
            rintro e w15 ⟨rfl, hc⟩
            rw [← HN.out]
            replace Hm := Lib.hid (Hm.out.bel hc)
            have hb15 := hb14.trans (hc.mono hb14.size)
            clear hc hb14
            go_wp2_with fail
            refine (iWalk0_any Hm.out HO.out).mono ?_
            rintro e w16 ⟨Aa, ca, rfl, ha, hc⟩
            have Ha := Lib.hid ha
            clear ha
            replace Hm := Lib.hid (Hm.out.bel hc)
            have hb16 := hb15.trans (hc.mono hb15.size)
            clear hc hb15
            rw [← HN.out]
            go_wp2_with fail
            refine (sRows_any Hm.out HMl.out).mono ?_
            rintro e w17 ⟨Ab, cb, rfl, hb, hc⟩
            have Hb := Lib.hid hb
            clear hb
            replace Hm := Lib.hid (Hm.out.bel hc)
            replace Ha := Lib.hid (Ha.out.bel hc)
            have hb17 := hb16.trans (hc.mono hb16.size)
            clear hc hb16
            rw [← HN.out]
            go_wp2_with fail
            go_ret
            first | exact ⟨rfl, hb17⟩ | exact ⟨rfl, hb17.alloc hb17.size _⟩
        · have hc4 : decide ((200 : Int) < (S.size : Int)) = true := decide_eq_true (by omega)
          clear h2 h4 hm
          go_enter Try.func3, Try.ntmps3
          go_wp2_with fail
          refine hZ.mono ?_
          rintro e w1 ⟨rfl, hb1⟩
          go_wp2_with fail
          refine (HF.out w1 hb1).mono ?_
          rintro e w2 ⟨rfl, hb2⟩
          go_wp2_with fail
          go_ret
          exact ⟨rfl, hb1.trans (hb2.mono hb1.size)⟩
    · have hc2 : decide ((2147483647 : Int) < (S.size : Int)) = true := decide_eq_true (by omega)
      clear h2 hm
      go_enter Try.func3, Try.ntmps3
      go_wp2_with fail
      refine hZ.mono ?_
      rintro e w1 ⟨rfl, hb1⟩
      go_wp2_with fail
      go_ret
      exact ⟨rfl, hb1⟩

end Go.Proofs.Ytaidaohkbbdimac

namespace Go.Proofs.Ytaidaohkbbdimac.fnGone
open Go.ChangeShapes Go.WideShapes Go.ChangeAt Go.RowKit Go.ChangeMaps

set_option maxRecDepth 100000 in
theorem lifted (os : Os) (started : os.Started) (H : Type) (enc : TypeId × Value → H) :
    ReturnsInHanded {} Try.checked os 3 .any (Rows.fnGoneSpec.pre6 enc Try.prog Try.f3 Rows.fnGoneRow.domain false) (Rows.fnGoneSpec.post enc Try.prog Try.f3 false true false false) := by
  refine returnsInHanded_of_change (C := Try.checked) own started (by kernel_rfl) Try.func3
    (ChangeSpec.witness6 (enc := enc) (C := Try.checked) false ⟨#[], #[.slice none 0 0, .string ⟨#[]⟩], []⟩ 8 (by kernel_rfl) (by kernel_rfl) (by kernel_rfl) (by kernel_rfl)) ?_
  intro W base args ds gs before hval0 hW hcnd _
  have hval : ∀ (j : Nat) t v, Try.f3.params[j]? = some t → args[j]? = some v → Value.okWide Try.prog W .any base t v := hval0
  have hW' := hW
  obtain ⟨p, q, hA0, hV, rfl, hfz, hnd⟩ := hW
  obtain ⟨rfl, rfl⟩ := trodVars_none hV
  rw [List.append_nil] at hW'
  have hA : DataW.TrodAll enc Try.prog W 0 (fun _ => true) true Try.f3.params.toList args.toList ds p := hA0
  have hA1 := hA
  rw [Try.params3] at hA hval
  obtain ⟨v0, vs0, d0, ds0, p0, q0, hargs, rfl, rfl, h0, r0⟩ := trodAll_cons hA
  obtain ⟨v1, vs1, d1, ds1, p1, q1, rfl, rfl, rfl, h1, r1⟩ := trodAll_cons r0
  obtain ⟨rfl, rfl, rfl⟩ := trodAll_nil r1
  obtain rfl : args = #[v0, v1] := by cases args; simp_all
  obtain ⟨A0, c0, ops0, rfl, hR0⟩ := open_ops (hval 0 22 v0 rfl rfl) h0
  obtain ⟨s1, rfl, _, _, _⟩ := open_string Try.underlying9 (hval 1 9 v1 rfl rfl) h1
  have hC := fnGone_any (c := c0) s1.data.toList hR0
  rw [ba_bs] at hC
  exact hC.mono fun e W' ha => law_post hW' hA1 rfl rfl (by rw [Try.params3]; decide +kernel) (by kernel_rfl) rfl ha

theorem proved : Rows.FnGoneSaid :=
  OpenClaim.holds_of_wide 3 Try.f3 rfl rfl rfl rfl rfl rfl rfl ⟨rfl, rfl, rfl, rfl, rfl⟩ rfl rfl rfl rfl rfl (by kernel_rfl) Try.func3 (by kernel_rfl)
    (of_decide_eq_true (by kernel_rfl)) (by unfold Func.isWrapper; first | (rw [if_pos (by decide +kernel)]; kernel_rfl) | (rw [if_neg (by decide +kernel)]; exact ⟨rfl, rfl⟩))
    (fun os started H enc _ => lifted os started H enc)

end Go.Proofs.Ytaidaohkbbdimac.fnGone
