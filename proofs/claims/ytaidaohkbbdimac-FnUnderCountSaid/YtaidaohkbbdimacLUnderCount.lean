/-
  FnUnderCount: whatever the operations and the prefix: DeletePrefix returns how many entries it deletes. No condition.
-/
import Derived.Test.YtaidaohkbbdimacLB
import Derived.Deep.RegionHeld3
namespace Go.Proofs.Ytaidaohkbbdimac
open Go.RowKit

theorem got_end (ops : List Opr) (o : Opr) (h : ops.length < (gots (ops ++ [o])).length) : (gots (ops ++ [o]))[ops.length] = got (rows ops) o := by
  simp only [gots_snoc]
  rw [List.getElem_append_right (by rw [len_gots]; exact Nat.le_refl _)]
  simp only [len_gots, Nat.sub_self]
  rfl

set_option maxHeartbeats 4000000 in
set_option maxRecDepth 100000 in
theorem fnUnderCount_any {w : World} {A : Option Addr} {c : Nat} {ops : List Opr} (s : Bs) (h : Rd w 3 A ops.length (flat opc ops)) :
    Calls Try.prog 4 #[.slice A ops.length c, .string (ba s)] w (Ans w (.bool true)) := by
  have hZ := zzFits1_any (c := c) h
  have hS := ba_size s
  obtain ⟨S, hSS⟩ : ∃ S, S = ba s := ⟨_, rfl⟩
  rw [← hSS] at hS
  rw [← hSS]
  have HSS := Lib.hid hSS
  have HS := Lib.hid hS
  clear hSS hS
  have HR := Lib.hid h
  clear h
  cases h1 : fits1 ops with
  | false =>
    rw [h1] at hZ
    clear h1
    go_enter Try.func4, Try.ntmps4
    go_wp2_with fail
    refine hZ.mono ?_
    rintro e w1 ⟨rfl, hb1⟩
    go_wp2_with fail
    go_ret
    exact ⟨rfl, hb1⟩
  | true =>
    rw [h1] at hZ
    have hm := fits1_len h1
    clear h1
    by_cases h2 : S.size ≤ 2147483647
    · have hc2 : decide ((2147483647 : Int) < (S.size : Int)) = false := decide_eq_false (by omega)
      have hF := fun W (hW : Below w.heap.size w W) => fit_any (c := c) (HR.out.bel hW) hm
      cases h3 : fit ops with
      | false =>
        rw [h3] at hF
        have HF := Lib.hid hF
        clear h3 hm hF
        go_enter Try.func4, Try.ntmps4
        go_wp2_with fail
        refine hZ.mono ?_
        rintro e w1 ⟨rfl, hb1⟩
        go_wp2_with fail
        refine (HF.out w1 hb1).mono ?_
        rintro e w2 ⟨rfl, hb2⟩
        go_wp2_with fail
        go_ret
        exact ⟨rfl, hb1.trans (hb2.mono hb1.size)⟩
      | true =>
        rw [h3] at hF
        have HF := Lib.hid hF
        have H3 := Lib.hid (fit_oks h3)
        clear h3 hF
        by_cases h4 : S.size ≤ 200
        · have hc4 : decide ((200 : Int) < (S.size : Int)) = false := decide_eq_false (by omega)
          have H4 : Hid (s.length ≤ 200) := Lib.hid (by have := HS.out; omega)
          clear h2 h4
          go_enter Try.func4, Try.ntmps4
          go_wp2_with fail
          refine hZ.mono ?_
          rintro e w1 ⟨rfl, hb1⟩
          go_wp2_with fail
          refine (HF.out w1 hb1).mono ?_
          rintro e w2 ⟨rfl, hb2⟩
          have hb3 := hb1.trans (hb2.mono hb1.size)
          clear hb1 hb2 hZ HF
          go_wp2_with fail
          clear hc2 hc4 hm
          have hL3 := H3.out.1
          obtain ⟨M, hM⟩ : ∃ M, M = ops ++ [cutO s] := ⟨_, rfl⟩
          have HM := Lib.hid hM
          have HO : Hid (Oks M) := Lib.hid (by rw [hM]; exact oks_app (oks_fit H3.out) (by simp) (by simp [cutO]; have := H4.out; omega))
          have HG : Hid ((gots M).length = ops.length + 1) := Lib.hid (by rw [len_gots, hM]; simp)
          have HLM : Hid (∀ h : ops.length < (gots M).length, (gots M)[ops.length].1 = ((und (rows ops) s).length : Int)) := Lib.hid (by rw [hM]; intro h; rw [got_end]; rfl)
          clear hM
          refine (then_lit (b := [cutO s]) HM.out (HR.out.bel hb3) rfl (by rw [HSS.out]; rfl) (by have := H3.out.1; simp; omega) rfl).mono ?_
          rintro e w11 ⟨Am, cm, rfl, hm, hc⟩
          have Hm := Lib.hid hm
          clear hm
          have hb11 := hb3.trans (hc.mono hb3.size)
          clear hc hb3
          rw [HSS.out]
          go_wp2_with fail
          refine (iRun_any Hm.out HO.out).mono ?_
          rintro e w12 ⟨Ag, cg, rfl, hg, hc⟩
          have Hg := Lib.hid hg
          clear hg
          have hb12 := hb11.trans (hc.mono hb11.size)
          clear hc hb11
          clear Hm
          have hi0 : ops.length < (gots M).length := by rw [HG.out]; omega
          obtain ⟨ad, hAg, hadl, g0, g1⟩ := Hg.out.gt_ hi0
          rw [HLM.out hi0] at g0
          subst hAg
          rw [HG.out]
          have hw1 : IntKind.i64.wrap ((ops.length : Int) + 1) = (ops.length : Int) + 1 := IntWalk.i64_in _ (by omega)
          have HLR : Hid ((rows ops).length ≤ 1000) := Lib.hid (by have := len_rows ops; omega)
          have HLL : Hid (ops.length ≤ 1000) := Lib.hid (by omega)
          obtain ⟨U, hU⟩ : ∃ U, U = und (rows ops) s := ⟨_, rfl⟩
          rw [← hU] at g0
          have HU := Lib.hid hU
          have HBB := Lib.hid hb12
          have HS : Hid (∀ w', Below w12.heap.size w12 w' → w'.cell? (ad.add (ops.length * 2)) = some (.int .i64 (U.length : Int)) ∧ Hid (Below w12.heap.size w12 w')) :=
            Lib.hid (fun w' h => ⟨(h.cell (by rw [add_block]; exact hadl)).trans g0, Lib.hid h⟩)
          have HS0 : Hid (Below w12.heap.size w12 w12.drew) := Lib.hid (Below.refl _ _).drew
          have hix0 : (0 : Int) ≤ (ops.length : Int) := by omega
          have hix1 : (ops.length : Int) < (ops.length : Int) + 1 := by omega
          clear hi0 g1 hU hadl g0 HG HLM Hg hL3 hb12 HO HM
          go_wp2_with fail
          first
            | (go_region_held3 (fun w' => w'.cell? (ad.add (ops.length * 2)) = some (.int .i64 (U.length : Int)) ∧ Hid (Below w12.heap.size w12 w')) (exact HS.out _ (Hid.out (by assumption)))
              (first
              | (go_at_call 17; go_split_ands; refine (iUnder0_any s (HR.out.bel (HBB.out.trans ((Hid.out (p := Below w12.heap.size w12 _) (by assumption)).mono HBB.out.size))) (oks_of (oks_fit H3.out))).mono ?_
                 rintro e wU ⟨Au, cu, rfl, hu, hcU⟩
                 have HBU : Hid (Below w12.heap.size w12 wU) := Lib.hid ((Hid.out (p := Below w12.heap.size w12 _) (by assumption)).trans (hcU.mono (Hid.out (p := Below w12.heap.size w12 _) (by assumption)).size))
                 rw [← HU.out]
                 clear hu hcU)
              | (go_at_call 15; go_split_ands; refine (sRows_any (HR.out.bel (HBB.out.trans ((Hid.out (p := Below w12.heap.size w12 _) (by assumption)).mono HBB.out.size))) HLL.out).mono ?_
                 rintro e wR ⟨Ab, cb, rfl, hr, hcR⟩
                 have HBR : Hid (Below w12.heap.size w12 wR) := Lib.hid ((Hid.out (p := Below w12.heap.size w12 _) (by assumption)).trans (hcR.mono (Hid.out (p := Below w12.heap.size w12 _) (by assumption)).size))
                 have HRr := Lib.hid hr
                 clear hr hcR)
              | (go_at_call 18; refine (sUnder_any s HRr.out HLR.out).mono ?_
                 rintro e wV ⟨Av, cv, rfl, hv, hcV⟩
                 have HBV : Hid (Below w12.heap.size w12 wV) := Lib.hid (HBR.out.trans (hcV.mono HBR.out.size))
                 rw [← HU.out]
                 clear hv hcV)))
            | fail "region"
          go_wp2_with fail
          go_ret
          exact ⟨rfl, HBB.out.trans (HBV.out.mono HBB.out.size)⟩
        · have hc4 : decide ((200 : Int) < (S.size : Int)) = true := decide_eq_true (by omega)
          clear h2 h4 hm
          go_enter Try.func4, Try.ntmps4
          go_wp2_with fail
          refine hZ.mono ?_
          rintro e w1 ⟨rfl, hb1⟩
          go_wp2_with fail
          refine (HF.out w1 hb1).mono ?_
          rintro e w2 ⟨rfl, hb2⟩
          go_wp2_with fail
          go_ret
          exact ⟨rfl, hb1.trans (hb2.mono hb1.size)⟩
    · have hc2 : decide ((2147483647 : Int) < (S.size : Int)) = true := decide_eq_true (by omega)
      clear h2 hm
      go_enter Try.func4, Try.ntmps4
      go_wp2_with fail
      refine hZ.mono ?_
      rintro e w1 ⟨rfl, hb1⟩
      go_wp2_with fail
      go_ret
      exact ⟨rfl, hb1⟩

end Go.Proofs.Ytaidaohkbbdimac

namespace Go.Proofs.Ytaidaohkbbdimac.fnUnderCount
open Go.ChangeShapes Go.WideShapes Go.ChangeAt Go.RowKit Go.ChangeMaps

set_option maxRecDepth 100000 in
theorem lifted (os : Os) (started : os.Started) (H : Type) (enc : TypeId × Value → H) :
    ReturnsInHanded {} Try.checked os 4 .any (Rows.fnUnderCountSpec.pre6 enc Try.prog Try.f4 Rows.fnUnderCountRow.domain false) (Rows.fnUnderCountSpec.post enc Try.prog Try.f4 false true false false) := by
  refine returnsInHanded_of_change (C := Try.checked) own started (by kernel_rfl) Try.func4
    (ChangeSpec.witness6 (enc := enc) (C := Try.checked) false ⟨#[], #[.slice none 0 0, .string ⟨#[]⟩], []⟩ 8 (by kernel_rfl) (by kernel_rfl) (by kernel_rfl) (by kernel_rfl)) ?_
  intro W base args ds gs before hval0 hW hcnd _
  have hval : ∀ (j : Nat) t v, Try.f4.params[j]? = some t → args[j]? = some v → Value.okWide Try.prog W .any base t v := hval0
  have hW' := hW
  obtain ⟨p, q, hA0, hV, rfl, hfz, hnd⟩ := hW
  obtain ⟨rfl, rfl⟩ := trodVars_none hV
  rw [List.append_nil] at hW'
  have hA : DataW.TrodAll enc Try.prog W 0 (fun _ => true) true Try.f4.params.toList args.toList ds p := hA0
  have hA1 := hA
  rw [Try.params4] at hA hval
  obtain ⟨v0, vs0, d0, ds0, p0, q0, hargs, rfl, rfl, h0, r0⟩ := trodAll_cons hA
  obtain ⟨v1, vs1, d1, ds1, p1, q1, rfl, rfl, rfl, h1, r1⟩ := trodAll_cons r0
  obtain ⟨rfl, rfl, rfl⟩ := trodAll_nil r1
  obtain rfl : args = #[v0, v1] := by cases args; simp_all
  obtain ⟨A0, c0, ops0, rfl, hR0⟩ := open_ops (hval 0 22 v0 rfl rfl) h0
  obtain ⟨s1, rfl, _, _, _⟩ := open_string Try.underlying9 (hval 1 9 v1 rfl rfl) h1
  have hC := fnUnderCount_any (c := c0) s1.data.toList hR0
  rw [ba_bs] at hC
  exact hC.mono fun e W' ha => law_post hW' hA1 rfl rfl (by rw [Try.params4]; decide +kernel) (by kernel_rfl) rfl ha

theorem proved : Rows.FnUnderCountSaid :=
  OpenClaim.holds_of_wide 4 Try.f4 rfl rfl rfl rfl rfl rfl rfl ⟨rfl, rfl, rfl, rfl, rfl⟩ rfl rfl rfl rfl rfl (by kernel_rfl) Try.func4 (by kernel_rfl)
    (of_decide_eq_true (by kernel_rfl)) (by unfold Func.isWrapper; first | (rw [if_pos (by decide +kernel)]; kernel_rfl) | (rw [if_neg (by decide +kernel)]; exact ⟨rfl, rfl⟩))
    (fun os started H enc _ => lifted os started H enc)

end Go.Proofs.Ytaidaohkbbdimac.fnUnderCount
