/-
  FnMoved: whatever the operations and the text: with a text ahead of all keys the entries are the same, with it ahead. No condition.
-/
import Derived.Test.YtaidaohkbbdimacLB
namespace Go.Proofs.Ytaidaohkbbdimac
open Go.RowKit

set_option maxHeartbeats 4000000 in
set_option maxRecDepth 100000 in
theorem fnMoved_any {w : World} {A : Option Addr} {c : Nat} {ops : List Opr} (s : Bs) (h : Rd w 3 A ops.length (flat opc ops)) :
    Calls Try.prog 5 #[.slice A ops.length c, .string (ba s)] w (Ans w (.bool true)) := by
  have hZ := zzFits1_any (c := c) h
  have hS := ba_size s
  obtain ⟨S, hSS⟩ : ∃ S, S = ba s := ⟨_, rfl⟩
  rw [← hSS] at hS
  rw [← hSS]
  have HSS := Lib.hid hSS
  have HS := Lib.hid hS
  clear hSS hS
  have HR := Lib.hid h
  clear h
  cases h1 : fits1 ops with
  | false =>
    rw [h1] at hZ
    clear h1
    go_enter Try.func5, Try.ntmps5
    go_wp2_with fail
    refine hZ.mono ?_
    rintro e w1 ⟨rfl, hb1⟩
    go_wp2_with fail
    go_ret
    exact ⟨rfl, hb1⟩
  | true =>
    rw [h1] at hZ
    have hm := fits1_len h1
    clear h1
    by_cases h2 : S.size ≤ 2147483647
    · have hc2 : decide ((2147483647 : Int) < (S.size : Int)) = false := decide_eq_false (by omega)
      have hF := fun W (hW : Below w.heap.size w W) => fit_any (c := c) (HR.out.bel hW) hm
      cases h3 : fit ops with
      | false =>
        rw [h3] at hF
        have HF := Lib.hid hF
        clear h3 hm hF
        go_enter Try.func5, Try.ntmps5
        go_wp2_with fail
        refine hZ.mono ?_
        rintro e w1 ⟨rfl, hb1⟩
        go_wp2_with fail
        refine (HF.out w1 hb1).mono ?_
        rintro e w2 ⟨rfl, hb2⟩
        go_wp2_with fail
        go_ret
        exact ⟨rfl, hb1.trans (hb2.mono hb1.size)⟩
      | true =>
        rw [h3] at hF
        have HF := Lib.hid hF
        have H3 := Lib.hid (fit_oks h3)
        clear h3 hF
        by_cases h4 : S.size ≤ 200
        · have hc4 : decide ((200 : Int) < (S.size : Int)) = false := decide_eq_false (by omega)
          have H4 : Hid (s.length ≤ 200) := Lib.hid (by have := HS.out; omega)
          clear h2 h4
          go_enter Try.func5, Try.ntmps5
          go_wp2_with fail
          refine hZ.mono ?_
          rintro e w1 ⟨rfl, hb1⟩
          go_wp2_with fail
          refine (HF.out w1 hb1).mono ?_
          rintro e w2 ⟨rfl, hb2⟩
          have hb3 := hb1.trans (hb2.mono hb1.size)
          clear hb1 hb2 hZ HF
          go_wp2_with fail
          clear hc2 hc4 hm
          have hL3 := H3.out.1
          obtain ⟨M, hM⟩ : ∃ M, M = ops.map (mvOp s) := ⟨_, rfl⟩
          obtain ⟨R, hRR⟩ : ∃ R, R = rows ops := ⟨_, rfl⟩
          obtain ⟨Q, hQ⟩ : ∃ Q, Q = R.map (mv s) := ⟨_, rfl⟩
          have HO : Hid (Oks M) := Lib.hid (by
            rw [hM]
            refine ⟨by rw [List.length_map]; omega, fun o ho => ?_⟩
            obtain ⟨x, hx, rfl⟩ := List.mem_map.1 ho
            have h1 := H3.out.2 x hx
            have h2 := H4.out
            show (s ++ x.key).length ≤ 1000
            rw [List.length_append]
            omega)
          have HRQ : Hid (rows M = Q) := Lib.hid (by rw [hM, hQ, hRR]; exact rows_mv s ops)
          have HUQ : Hid (und Q s = Q) := Lib.hid (by rw [hQ]; exact und_mv s R)
          have HLQ : Hid (Q.length = R.length) := Lib.hid (by rw [hQ, List.length_map])
          have HLR : Hid (R.length ≤ 1000) := Lib.hid (by rw [hRR]; have := len_rows ops; omega)
          have HKR : Hid (∀ x ∈ R, x.1.length ≤ 1000) := Lib.hid (by rw [hRR]; exact rows_keys (oks_fit H3.out).2)
          have HM := Lib.hid hM
          have HRR := Lib.hid hRR
          have HQ := Lib.hid hQ
          clear hM hRR hQ
          rw [HSS.out]
          refine (moved_any s (HR.out.bel hb3) (by have := H3.out.1; omega) (by have := H4.out; omega) (oks_fit H3.out).2).mono ?_
          rintro e w11 ⟨Am, cm, rfl, hm, hc⟩
          rw [← HM.out] at hm ⊢
          have Hm := Lib.hid hm
          clear hm
          have hb11 := hb3.trans (hc.mono hb3.size)
          clear hc hb3
          go_wp2_with fail
          refine (iWalk0_any (HR.out.bel hb11) (oks_of (oks_fit H3.out))).mono ?_
          rintro e w12 ⟨Aa, ca, rfl, ha, hc⟩
          rw [← HRR.out] at ha ⊢
          have Ha := Lib.hid ha
          clear ha
          replace Hm := Lib.hid (Hm.out.bel hc)
          have hb12 := hb11.trans (hc.mono hb11.size)
          clear hc hb11
          go_wp2_with fail
          refine (iWalk0_any Hm.out HO.out).mono ?_
          rintro e w13 ⟨Ab, cb, rfl, hb, hc⟩
          rw [HRQ.out, HLQ.out] at hb ⊢
          have Hb := Lib.hid hb
          clear hb
          replace Hm := Lib.hid (Hm.out.bel hc)
          replace Ha := Lib.hid (Ha.out.bel hc)
          have hb13 := hb12.trans (hc.mono hb12.size)
          clear hc hb12
          go_wp2_with fail
          refine (sRows_any (HR.out.bel hb13) (by have := H3.out.1; omega)).mono ?_
          rintro e w14 ⟨Az, cz, rfl, hz, hc⟩
          rw [← HRR.out] at hz ⊢
          have Hz := Lib.hid hz
          clear hz
          replace Hm := Lib.hid (Hm.out.bel hc)
          replace Ha := Lib.hid (Ha.out.bel hc)
          replace Hb := Lib.hid (Hb.out.bel hc)
          have hb14 := hb13.trans (hc.mono hb13.size)
          clear hc hb13
          clear Hz
          have HBB := Lib.hid hb14
          obtain ⟨L, hL⟩ : ∃ L, L = R.length := ⟨_, rfl⟩
          have hlen : L ≤ 1000 := by have := HLR.out; omega
          rw [← hL] at Ha Hb
          rw [← hL]
          have HL := Lib.hid hL
          clear hL
          go_wp2_with fail
          go_loopg [50] L (fun g v50 wr => ∃ (j : Nat), v50 = .int .i64 (j : Int) ∧ j ≤ L ∧ L - j ≤ g ∧ Below w14.heap.size w14 wr)
          case atStart => exact ⟨0, rfl, Nat.zero_le _, by omega, Below.refl _ _⟩
          case round =>
            obtain ⟨j, rfl, hjL, hg, hb⟩ := hrel
            by_cases hj : j < L
            · have hj0 : j < R.length := by have := HL.out; omega
              have hj1 : j < Q.length := by have := HLQ.out; omega
              have hlt : decide ((j : Int) < (L : Int)) = true := decide_eq_true (by omega)
              have hRA := Ha.out.bel hb
              have hRB := Hb.out.bel hb
              rw [HL.out] at hRA hRB
              rw [← HLQ.out] at hRB
              obtain ⟨ad, hA, hadl, c0, c1⟩ := hRA.rw_ hj0
              obtain ⟨ad2, hA2, hadl2, d0, d1⟩ := hRB.rw_ hj1
              subst hA
              subst hA2
              clear hRA hRB
              have hq : Q[j] = mv s R[j] := by have := HQ.out; subst this; rw [List.getElem_map]
              rw [hq] at d0 d1
              have hsum := ba_app s R[j].1
              have hsz : ¬ 9223372036854775807 < (ba s).size + (ba R[j].1).size := by
                rw [ba_size, ba_size]
                have := HKR.out _ (List.getElem_mem hj0)
                have := H4.out
                omega
              have hw1 : IntKind.i64.wrap ((j : Int) + 1) = (j : Int) + 1 := IntWalk.i64_in _ (by omega)
              have hi0 : (0 : Int) ≤ (j : Int) := by omega
              have hi1 : (j : Int) < (L : Int) := by omega
              unfold mv at d0 d1
              dsimp only at d0 d1
              clear hq
              generalize R[j].2 = x at *
              generalize ba (s ++ R[j].1) = z at *
              generalize ba R[j].1 = y at *
              go_wp2_with fail
              go_quiet (fail)
              go_wp2_with fail
              go_roundg (L - (j + 1))
              case measure => omega
              case rel => exact ⟨j + 1, by go_num, by omega, Nat.le_refl _, below_drewN hb _⟩
            · have hlt : decide ((j : Int) < (L : Int)) = false := decide_eq_false (by omega)
              have hbx := HBB.out.trans (hb.mono HBB.out.size)
              have Hm2 := Lib.hid (Hm.out.bel hb)
              have Hb2 := Lib.hid (Hb.out.bel hb)
              clear hb
              go_wp2_with fail
              refine (iUnder0_any s Hm2.out HO.out).mono ?_
              rintro e w22 ⟨A1, c1, rfl, h1, hc⟩
              rw [HRQ.out, HUQ.out] at h1 ⊢
              have H1 := Lib.hid h1
              have hby := hbx.trans (hc.mono hbx.size)
              have Hb3 := Lib.hid (Hb2.out.bel hc)
              clear h1 hc hbx
              go_wp2_with fail
              have hSR := sameRows_any (c := c1) (c2 := cb) H1.out (by rw [HLQ.out, ← HL.out]; exact Hb3.out) (by rw [HLQ.out]; have := HLR.out; omega)
              rw [decide_eq_true rfl, HLQ.out, ← HL.out] at hSR
              rw [HLQ.out, ← HL.out]
              refine hSR.mono ?_
              rintro e w23 ⟨rfl, hc⟩
              have hbz := hby.trans (hc.mono hby.size)
              clear hc hby
              go_wp2_with fail
              go_ret
              exact ⟨rfl, hbz⟩
        · have hc4 : decide ((200 : Int) < (S.size : Int)) = true := decide_eq_true (by omega)
          clear h2 h4 hm
          go_enter Try.func5, Try.ntmps5
          go_wp2_with fail
          refine hZ.mono ?_
          rintro e w1 ⟨rfl, hb1⟩
          go_wp2_with fail
          refine (HF.out w1 hb1).mono ?_
          rintro e w2 ⟨rfl, hb2⟩
          go_wp2_with fail
          go_ret
          exact ⟨rfl, hb1.trans (hb2.mono hb1.size)⟩
    · have hc2 : decide ((2147483647 : Int) < (S.size : Int)) = true := decide_eq_true (by omega)
      clear h2 hm
      go_enter Try.func5, Try.ntmps5
      go_wp2_with fail
      refine hZ.mono ?_
      rintro e w1 ⟨rfl, hb1⟩
      go_wp2_with fail
      go_ret
      exact ⟨rfl, hb1⟩

end Go.Proofs.Ytaidaohkbbdimac

namespace Go.Proofs.Ytaidaohkbbdimac.fnMoved
open Go.ChangeShapes Go.WideShapes Go.ChangeAt Go.RowKit Go.ChangeMaps

set_option maxRecDepth 100000 in
theorem lifted (os : Os) (started : os.Started) (H : Type) (enc : TypeId × Value → H) :
    ReturnsInHanded {} Try.checked os 5 .any (Rows.fnMovedSpec.pre6 enc Try.prog Try.f5 Rows.fnMovedRow.domain false) (Rows.fnMovedSpec.post enc Try.prog Try.f5 false true false false) := by
  refine returnsInHanded_of_change (C := Try.checked) own started (by kernel_rfl) Try.func5
    (ChangeSpec.witness6 (enc := enc) (C := Try.checked) false ⟨#[], #[.slice none 0 0, .string ⟨#[]⟩], []⟩ 8 (by kernel_rfl) (by kernel_rfl) (by kernel_rfl) (by kernel_rfl)) ?_
  intro W base args ds gs before hval0 hW hcnd _
  have hval : ∀ (j : Nat) t v, Try.f5.params[j]? = some t → args[j]? = some v → Value.okWide Try.prog W .any base t v := hval0
  have hW' := hW
  obtain ⟨p, q, hA0, hV, rfl, hfz, hnd⟩ := hW
  obtain ⟨rfl, rfl⟩ := trodVars_none hV
  rw [List.append_nil] at hW'
  have hA : DataW.TrodAll enc Try.prog W 0 (fun _ => true) true Try.f5.params.toList args.toList ds p := hA0
  have hA1 := hA
  rw [Try.params5] at hA hval
  obtain ⟨v0, vs0, d0, ds0, p0, q0, hargs, rfl, rfl, h0, r0⟩ := trodAll_cons hA
  obtain ⟨v1, vs1, d1, ds1, p1, q1, rfl, rfl, rfl, h1, r1⟩ := trodAll_cons r0
  obtain ⟨rfl, rfl, rfl⟩ := trodAll_nil r1
  obtain rfl : args = #[v0, v1] := by cases args; simp_all
  obtain ⟨A0, c0, ops0, rfl, hR0⟩ := open_ops (hval 0 22 v0 rfl rfl) h0
  obtain ⟨s1, rfl, _, _, _⟩ := open_string Try.underlying9 (hval 1 9 v1 rfl rfl) h1
  have hC := fnMoved_any (c := c0) s1.data.toList hR0
  rw [ba_bs] at hC
  exact hC.mono fun e W' ha => law_post hW' hA1 rfl rfl (by rw [Try.params5]; decide +kernel) (by kernel_rfl) rfl ha

theorem proved : Rows.FnMovedSaid :=
  OpenClaim.holds_of_wide 5 Try.f5 rfl rfl rfl rfl rfl rfl rfl ⟨rfl, rfl, rfl, rfl, rfl⟩ rfl rfl rfl rfl rfl (by kernel_rfl) Try.func5 (by kernel_rfl)
    (of_decide_eq_true (by kernel_rfl)) (by unfold Func.isWrapper; first | (rw [if_pos (by decide +kernel)]; kernel_rfl) | (rw [if_neg (by decide +kernel)]; exact ⟨rfl, rfl⟩))
    (fun os started H enc _ => lifted os started H enc)

end Go.Proofs.Ytaidaohkbbdimac.fnMoved
