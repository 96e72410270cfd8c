/-
  FnPrevious: whatever the operations, the key and the value: Delete returns the value that was there. No condition.
-/
import Derived.Test.YtaidaohkbbdimaaLA
namespace Go.Proofs.Ytaidaohkbbdimaa
open Go.RowKit

theorem prev_last (ops : List Opr) (s : Bs) (v : Int) (h : ops.length + 1 < (gots (ops ++ [putO s v, delO s])).length) : (gots (ops ++ [putO s v, delO s]))[ops.length + 1] = (v, true) := by
  have e : gots (ops ++ [putO s v, delO s]) = gots ops ++ [got (rows ops) (putO s v), got (step (rows ops) (putO s v)) (delO s)] := by rw [gots_app]; rfl
  have e2 : got (step (rows ops) (putO s v)) (delO s) = (v, true) := by
    have h1 : step (rows ops) (putO s v) = put (rows ops) s v := by simp [step, putO]
    rw [h1]
    unfold got
    rw [if_neg (by simp [delO])]
    show ((look (put (rows ops) s v) s).getD 0, (look (put (rows ops) s v) s).isSome) = _
    rw [look_put (srt_rows ops), if_pos rfl]; rfl
  simp only [e]
  rw [List.getElem_append_right (by rw [len_gots]; omega)]
  simp only [len_gots, Nat.add_sub_cancel_left]
  exact e2

set_option maxHeartbeats 4000000 in
set_option maxRecDepth 100000 in
theorem fnPrevious_any {w : World} {A : Option Addr} {c : Nat} {ops : List Opr} (s : Bs) (v : Int) (h : Rd w 3 A ops.length (flat opc ops)) :
    Calls Try.prog 4 #[.slice A ops.length c, .string (ba s), .int .i64 v] w (Ans w (.bool true)) := by
  have hZ := zzFits1_any (c := c) h
  have hS := ba_size s
  obtain ⟨S, hSS⟩ : ∃ S, S = ba s := ⟨_, rfl⟩
  rw [← hSS] at hS
  rw [← hSS]
  have HSS := Lib.hid hSS
  have HS := Lib.hid hS
  clear hSS hS
  have HR := Lib.hid h
  clear h
  cases h1 : fits1 ops with
  | false =>
    rw [h1] at hZ
    clear h1
    go_enter Try.func4, Try.ntmps4
    go_wp2_with fail
    refine hZ.mono ?_
    rintro e w1 ⟨rfl, hb1⟩
    go_wp2_with fail
    go_ret
    exact ⟨rfl, hb1⟩
  | true =>
    rw [h1] at hZ
    have hm := fits1_len h1
    clear h1
    by_cases h2 : S.size ≤ 2147483647
    · have hc2 : decide ((2147483647 : Int) < (S.size : Int)) = false := decide_eq_false (by omega)
      have hF := fun W (hW : Below w.heap.size w W) => fit_any (c := c) (HR.out.bel hW) hm
      cases h3 : fit ops with
      | false =>
        rw [h3] at hF
        have HF := Lib.hid hF
        clear h3 hm hF
        go_enter Try.func4, Try.ntmps4
        go_wp2_with fail
        refine hZ.mono ?_
        rintro e w1 ⟨rfl, hb1⟩
        go_wp2_with fail
        refine (HF.out w1 hb1).mono ?_
        rintro e w2 ⟨rfl, hb2⟩
        go_wp2_with fail
        go_ret
        exact ⟨rfl, hb1.trans (hb2.mono hb1.size)⟩
      | true =>
        rw [h3] at hF
        have HF := Lib.hid hF
        have H3 := Lib.hid (fit_oks h3)
        clear h3 hF
        by_cases h4 : S.size ≤ 200
        · have hc4 : decide ((200 : Int) < (S.size : Int)) = false := decide_eq_false (by omega)
          have H4 : Hid (s.length ≤ 200) := Lib.hid (by have := HS.out; omega)
          clear h2 h4
          go_enter Try.func4, Try.ntmps4
          go_wp2_with fail
          refine hZ.mono ?_
          rintro e w1 ⟨rfl, hb1⟩
          go_wp2_with fail
          refine (HF.out w1 hb1).mono ?_
          rintro e w2 ⟨rfl, hb2⟩
          have hb3 := hb1.trans (hb2.mono hb1.size)
          clear hb1 hb2 hZ HF
          go_wp2_with fail
          clear hc2 hc4 hm
          have hL3 := H3.out.1
          obtain ⟨M, hM⟩ : ∃ M, M = ops ++ [putO s v, delO s] := ⟨_, rfl⟩
          have HM := Lib.hid hM
          have HO : Hid (Oks M) := Lib.hid (by rw [hM]; exact oks_app (oks_fit H3.out) (by simp) (by simp [putO, delO]; have := H4.out; omega))
          have HG : Hid ((gots M).length = ops.length + 1 + 1) := Lib.hid (by rw [len_gots, hM]; simp)
          have HLAST : Hid (∀ h : ops.length + 1 < (gots M).length, (gots M)[ops.length + 1] = (v, true)) := Lib.hid (by rw [hM]; exact fun h => prev_last ops s v h)
          clear hM
          refine (then_lit (b := [putO s v, delO s]) HM.out (HR.out.bel hb3) rfl (by rw [HSS.out]; rfl) (by have := H3.out.1; simp; omega) rfl).mono ?_
          rintro e w3 ⟨A1, c1, rfl, hR1, hb4⟩
          have HR1 := Lib.hid hR1
          have hb5 := hb3.trans (hb4.mono hb3.size)
          clear hR1 hb4 hb3
          go_wp2_with fail
          refine (iRun_any HR1.out HO.out).mono ?_
          rintro e w4 ⟨A2, c2, rfl, hR2, hb6⟩
          have hb7 := hb5.trans (hb6.mono hb5.size)
          have hi0 : ops.length + 1 < (gots M).length := by rw [HG.out]; omega
          obtain ⟨ad, hA2, _, g0, g1⟩ := hR2.gt_ hi0
          rw [HLAST.out hi0] at g0 g1
          subst hA2
          rw [HG.out]
          generalize ops.length = L at *
          clear hR2 hb6 hb5 hi0
          have hw1 : IntKind.i64.wrap ((L : Int) + 1) = (L : Int) + 1 := IntWalk.i64_in _ (by omega)
          have hw2 : IntKind.i64.wrap ((L : Int) + 1 + 1) = (L : Int) + 1 + 1 := IntWalk.i64_in _ (by omega)
          go_wp2_with fail
          go_ret
          exact ⟨rfl, hb7⟩
        · have hc4 : decide ((200 : Int) < (S.size : Int)) = true := decide_eq_true (by omega)
          clear h2 h4 hm
          go_enter Try.func4, Try.ntmps4
          go_wp2_with fail
          refine hZ.mono ?_
          rintro e w1 ⟨rfl, hb1⟩
          go_wp2_with fail
          refine (HF.out w1 hb1).mono ?_
          rintro e w2 ⟨rfl, hb2⟩
          go_wp2_with fail
          go_ret
          exact ⟨rfl, hb1.trans (hb2.mono hb1.size)⟩
    · have hc2 : decide ((2147483647 : Int) < (S.size : Int)) = true := decide_eq_true (by omega)
      clear h2 hm
      go_enter Try.func4, Try.ntmps4
      go_wp2_with fail
      refine hZ.mono ?_
      rintro e w1 ⟨rfl, hb1⟩
      go_wp2_with fail
      go_ret
      exact ⟨rfl, hb1⟩

end Go.Proofs.Ytaidaohkbbdimaa

namespace Go.Proofs.Ytaidaohkbbdimaa.fnPrevious
open Go.ChangeShapes Go.WideShapes Go.ChangeAt Go.RowKit Go.ChangeMaps

set_option maxRecDepth 100000 in
theorem lifted (os : Os) (started : os.Started) (H : Type) (enc : TypeId × Value → H) :
    ReturnsInHanded {} Try.checked os 4 .any (Rows.fnPreviousSpec.pre6 enc Try.prog Try.f4 Rows.fnPreviousRow.domain false) (Rows.fnPreviousSpec.post enc Try.prog Try.f4 false true false false) := by
  refine returnsInHanded_of_change (C := Try.checked) own started (by kernel_rfl) Try.func4
    (ChangeSpec.witness6 (enc := enc) (C := Try.checked) false ⟨#[], #[.slice none 0 0, .string ⟨#[]⟩, .int .i64 0], []⟩ 8 (by kernel_rfl) (by kernel_rfl) (by kernel_rfl) (by kernel_rfl)) ?_
  intro W base args ds gs before hval0 hW hcnd _
  have hval : ∀ (j : Nat) t v, Try.f4.params[j]? = some t → args[j]? = some v → Value.okWide Try.prog W .any base t v := hval0
  have hW' := hW
  obtain ⟨p, q, hA0, hV, rfl, hfz, hnd⟩ := hW
  obtain ⟨rfl, rfl⟩ := trodVars_none hV
  rw [List.append_nil] at hW'
  have hA : DataW.TrodAll enc Try.prog W 0 (fun _ => true) true Try.f4.params.toList args.toList ds p := hA0
  have hA1 := hA
  rw [Try.params4] at hA hval
  obtain ⟨v0, vs0, d0, ds0, p0, q0, hargs, rfl, rfl, h0, r0⟩ := trodAll_cons hA
  obtain ⟨v1, vs1, d1, ds1, p1, q1, rfl, rfl, rfl, h1, r1⟩ := trodAll_cons r0
  obtain ⟨v2, vs2, d2, ds2, p2, q2, rfl, rfl, rfl, h2, r2⟩ := trodAll_cons r1
  obtain ⟨rfl, rfl, rfl⟩ := trodAll_nil r2
  obtain rfl : args = #[v0, v1, v2] := by cases args; simp_all
  obtain ⟨A0, c0, ops0, rfl, hR0⟩ := open_ops (hval 0 31 v0 rfl rfl) h0
  obtain ⟨s1, rfl, _, _, _⟩ := open_string Try.underlying9 (hval 1 9 v1 rfl rfl) h1
  obtain ⟨i2, rfl, _, _, hwf2⟩ := open_int Try.underlying3 (hval 2 3 v2 rfl rfl) h2
  have hC := fnPrevious_any (c := c0) s1.data.toList i2 hR0
  rw [ba_bs] at hC
  exact hC.mono fun e W' ha => law_post hW' hA1 rfl rfl (by rw [Try.params4]; decide +kernel) (by kernel_rfl) rfl ha

theorem proved : Rows.FnPreviousSaid :=
  OpenClaim.holds_of_wide 4 Try.f4 rfl rfl rfl rfl rfl rfl rfl ⟨rfl, rfl, rfl, rfl, rfl⟩ rfl rfl rfl rfl rfl (by kernel_rfl) Try.func4 (by kernel_rfl)
    (of_decide_eq_true (by kernel_rfl)) (by unfold Func.isWrapper; first | (rw [if_pos (by decide +kernel)]; kernel_rfl) | (rw [if_neg (by decide +kernel)]; exact ⟨rfl, rfl⟩))
    (fun os started H enc _ => lifted os started H enc)

end Go.Proofs.Ytaidaohkbbdimaa.fnPrevious
