/-
  FnUpdated: whatever the operations, the key and the value: Insert tells whether the key was there, Delete, too. No condition.
-/
import Derived.Test.YtaidaohkbbdimaaLA
namespace Go.Proofs.Ytaidaohkbbdimaa
open Go.RowKit

theorem got_last (ops : List Opr) (o : Opr) (h : ops.length < (gots (ops ++ [o])).length) : (gots (ops ++ [o]))[ops.length] = got (rows ops) o := by
  simp only [gots_snoc]
  rw [List.getElem_append_right (by rw [len_gots]; exact Nat.le_refl _)]
  simp only [len_gots, Nat.sub_self]
  rfl
theorem got_ok {l : List Rw} {o : Opr} (h : o.kind ≠ 2) : (got l o).2 = (look l o.key).isSome := by unfold got; rw [if_neg h]

set_option maxHeartbeats 4000000 in
set_option maxRecDepth 100000 in
theorem fnUpdated_any {w : World} {A : Option Addr} {c : Nat} {ops : List Opr} (s : Bs) (v : Int) (h : Rd w 3 A ops.length (flat opc ops)) :
    Calls Try.prog 7 #[.slice A ops.length c, .string (ba s), .int .i64 v] w (Ans w (.bool true)) := by
  have hZ := zzFits1_any (c := c) h
  have hS := ba_size s
  obtain ⟨S, hSS⟩ : ∃ S, S = ba s := ⟨_, rfl⟩
  rw [← hSS] at hS
  rw [← hSS]
  have HSS := Lib.hid hSS
  have HS := Lib.hid hS
  clear hSS hS
  have HR := Lib.hid h
  clear h
  cases h1 : fits1 ops with
  | false =>
    rw [h1] at hZ
    clear h1
    go_enter Try.func7, Try.ntmps7
    go_wp2_with fail
    refine hZ.mono ?_
    rintro e w1 ⟨rfl, hb1⟩
    go_wp2_with fail
    go_ret
    exact ⟨rfl, hb1⟩
  | true =>
    rw [h1] at hZ
    have hm := fits1_len h1
    clear h1
    by_cases h2 : S.size ≤ 2147483647
    · have hc2 : decide ((2147483647 : Int) < (S.size : Int)) = false := decide_eq_false (by omega)
      have hF := fun W (hW : Below w.heap.size w W) => fit_any (c := c) (HR.out.bel hW) hm
      cases h3 : fit ops with
      | false =>
        rw [h3] at hF
        have HF := Lib.hid hF
        clear h3 hm hF
        go_enter Try.func7, Try.ntmps7
        go_wp2_with fail
        refine hZ.mono ?_
        rintro e w1 ⟨rfl, hb1⟩
        go_wp2_with fail
        refine (HF.out w1 hb1).mono ?_
        rintro e w2 ⟨rfl, hb2⟩
        go_wp2_with fail
        go_ret
        exact ⟨rfl, hb1.trans (hb2.mono hb1.size)⟩
      | true =>
        rw [h3] at hF
        have HF := Lib.hid hF
        have H3 := Lib.hid (fit_oks h3)
        clear h3 hF
        by_cases h4 : S.size ≤ 200
        · have hc4 : decide ((200 : Int) < (S.size : Int)) = false := decide_eq_false (by omega)
          have H4 : Hid (s.length ≤ 200) := Lib.hid (by have := HS.out; omega)
          clear h2 h4
          go_enter Try.func7, Try.ntmps7
          go_wp2_with fail
          refine hZ.mono ?_
          rintro e w1 ⟨rfl, hb1⟩
          go_wp2_with fail
          refine (HF.out w1 hb1).mono ?_
          rintro e w2 ⟨rfl, hb2⟩
          have hb3 := hb1.trans (hb2.mono hb1.size)
          clear hb1 hb2 hZ HF
          go_wp2_with fail
          clear hc2 hc4 hm
          have hL3 := H3.out.1
          obtain ⟨M, hM⟩ : ∃ M, M = ops ++ [putO s v] := ⟨_, rfl⟩
          obtain ⟨N, hN⟩ : ∃ N, N = ops ++ [delO s] := ⟨_, rfl⟩
          obtain ⟨B, hB⟩ : ∃ B, B = (look (rows ops) s).isSome := ⟨_, rfl⟩
          have HM := Lib.hid hM
          have HN := Lib.hid hN
          have HO : Hid (Oks M) := Lib.hid (by rw [hM]; exact oks_app (oks_fit H3.out) (by simp) (by simp [putO]; have := H4.out; omega))
          have HON : Hid (Oks N) := Lib.hid (by rw [hN]; exact oks_app (oks_fit H3.out) (by simp) (by simp [delO]; have := H4.out; omega))
          have HG : Hid ((gots M).length = ops.length + 1) := Lib.hid (by rw [len_gots, hM]; simp)
          have HGN : Hid ((gots N).length = ops.length + 1) := Lib.hid (by rw [len_gots, hN]; simp)
          have HLM : Hid (∀ h : ops.length < (gots M).length, (gots M)[ops.length].2 = B) := Lib.hid (by rw [hM, hB]; intro h; rw [got_last, got_ok (by simp [putO])]; rfl)
          have HLN : Hid (∀ h : ops.length < (gots N).length, (gots N)[ops.length].2 = B) := Lib.hid (by rw [hN, hB]; intro h; rw [got_last, got_ok (by simp [delO])]; rfl)
          have hGet := iGet_any (c := c) s (HR.out.bel hb3) (oks_of (oks_fit H3.out))
          rw [← hB, ← HSS.out] at hGet
          generalize (look (rows ops) s).getD 0 = V at hGet
          have HGet := Lib.hid hGet
          clear hM hN hB hGet
          refine HGet.out.mono ?_
          rintro e w3 ⟨rfl, hb4⟩
          have hb5 := hb3.trans (hb4.mono hb3.size)
          clear hb3 hb4 HGet
          go_wp2_with fail
          refine (then_lit (b := [putO s v]) HM.out (HR.out.bel hb5) rfl (by rw [HSS.out]; rfl) (by have := H3.out.1; simp; omega) rfl).mono ?_
          rintro e w4 ⟨A1, c1, rfl, hR1, hb6⟩
          have HR1 := Lib.hid hR1
          have hb7 := hb5.trans (hb6.mono hb5.size)
          clear hR1 hb6 hb5
          go_wp2_with fail
          refine (iRun_any HR1.out HO.out).mono ?_
          rintro e w5 ⟨A2, c2, rfl, hR2, hb8⟩
          have HR2 := Lib.hid hR2
          have hb9 := hb7.trans (hb8.mono hb7.size)
          clear hR2 hb8 hb7
          go_wp2_with fail
          refine (then_lit (b := [delO s]) HN.out (HR.out.bel hb9) rfl (by rw [HSS.out]; rfl) (by have := H3.out.1; simp; omega) rfl).mono ?_
          rintro e w6 ⟨A3, c3, rfl, hR3, hb10⟩
          have HR3 := Lib.hid hR3
          have HR2' := Lib.hid (HR2.out.bel (hb10.mono (Nat.le_refl _)))
          have hb11 := hb9.trans (hb10.mono hb9.size)
          clear hR3 hb10 hb9 HR2
          go_wp2_with fail
          refine (iRun_any HR3.out HON.out).mono ?_
          rintro e w7 ⟨A4, c4, rfl, hR4, hb12⟩
          have hi0 : ops.length < (gots M).length := by rw [HG.out]; omega
          have hi1 : ops.length < (gots N).length := by rw [HGN.out]; omega
          obtain ⟨ad, hA2, _, g0, g1⟩ := (HR2'.out.bel hb12).gt_ hi0
          obtain ⟨ad2, hA4, _, d0, d1⟩ := hR4.gt_ hi1
          have hb13 := hb11.trans (hb12.mono hb11.size)
          rw [HLM.out hi0] at g1
          rw [HLN.out hi1] at d1
          subst hA2
          subst hA4
          rw [HG.out, HGN.out]
          generalize ops.length = L at *
          clear hR4 hb12 hb11 hi0 hi1 g0 d0
          have hw1 : IntKind.i64.wrap ((L : Int) + 1) = (L : Int) + 1 := IntWalk.i64_in _ (by omega)
          go_wp2_with fail
          go_ret
          exact ⟨rfl, hb13⟩
        · have hc4 : decide ((200 : Int) < (S.size : Int)) = true := decide_eq_true (by omega)
          clear h2 h4 hm
          go_enter Try.func7, Try.ntmps7
          go_wp2_with fail
          refine hZ.mono ?_
          rintro e w1 ⟨rfl, hb1⟩
          go_wp2_with fail
          refine (HF.out w1 hb1).mono ?_
          rintro e w2 ⟨rfl, hb2⟩
          go_wp2_with fail
          go_ret
          exact ⟨rfl, hb1.trans (hb2.mono hb1.size)⟩
    · have hc2 : decide ((2147483647 : Int) < (S.size : Int)) = true := decide_eq_true (by omega)
      clear h2 hm
      go_enter Try.func7, Try.ntmps7
      go_wp2_with fail
      refine hZ.mono ?_
      rintro e w1 ⟨rfl, hb1⟩
      go_wp2_with fail
      go_ret
      exact ⟨rfl, hb1⟩

end Go.Proofs.Ytaidaohkbbdimaa

namespace Go.Proofs.Ytaidaohkbbdimaa.fnUpdated
open Go.ChangeShapes Go.WideShapes Go.ChangeAt Go.RowKit Go.ChangeMaps

set_option maxRecDepth 100000 in
theorem lifted (os : Os) (started : os.Started) (H : Type) (enc : TypeId × Value → H) :
    ReturnsInHanded {} Try.checked os 7 .any (Rows.fnUpdatedSpec.pre6 enc Try.prog Try.f7 Rows.fnUpdatedRow.domain false) (Rows.fnUpdatedSpec.post enc Try.prog Try.f7 false true false false) := by
  refine returnsInHanded_of_change (C := Try.checked) own started (by kernel_rfl) Try.func7
    (ChangeSpec.witness6 (enc := enc) (C := Try.checked) false ⟨#[], #[.slice none 0 0, .string ⟨#[]⟩, .int .i64 0], []⟩ 8 (by kernel_rfl) (by kernel_rfl) (by kernel_rfl) (by kernel_rfl)) ?_
  intro W base args ds gs before hval0 hW hcnd _
  have hval : ∀ (j : Nat) t v, Try.f7.params[j]? = some t → args[j]? = some v → Value.okWide Try.prog W .any base t v := hval0
  have hW' := hW
  obtain ⟨p, q, hA0, hV, rfl, hfz, hnd⟩ := hW
  obtain ⟨rfl, rfl⟩ := trodVars_none hV
  rw [List.append_nil] at hW'
  have hA : DataW.TrodAll enc Try.prog W 0 (fun _ => true) true Try.f7.params.toList args.toList ds p := hA0
  have hA1 := hA
  rw [Try.params7] at hA hval
  obtain ⟨v0, vs0, d0, ds0, p0, q0, hargs, rfl, rfl, h0, r0⟩ := trodAll_cons hA
  obtain ⟨v1, vs1, d1, ds1, p1, q1, rfl, rfl, rfl, h1, r1⟩ := trodAll_cons r0
  obtain ⟨v2, vs2, d2, ds2, p2, q2, rfl, rfl, rfl, h2, r2⟩ := trodAll_cons r1
  obtain ⟨rfl, rfl, rfl⟩ := trodAll_nil r2
  obtain rfl : args = #[v0, v1, v2] := by cases args; simp_all
  obtain ⟨A0, c0, ops0, rfl, hR0⟩ := open_ops (hval 0 31 v0 rfl rfl) h0
  obtain ⟨s1, rfl, _, _, _⟩ := open_string Try.underlying9 (hval 1 9 v1 rfl rfl) h1
  obtain ⟨i2, rfl, _, _, hwf2⟩ := open_int Try.underlying3 (hval 2 3 v2 rfl rfl) h2
  have hC := fnUpdated_any (c := c0) s1.data.toList i2 hR0
  rw [ba_bs] at hC
  exact hC.mono fun e W' ha => law_post hW' hA1 rfl rfl (by rw [Try.params7]; decide +kernel) (by kernel_rfl) rfl ha

theorem proved : Rows.FnUpdatedSaid :=
  OpenClaim.holds_of_wide 7 Try.f7 rfl rfl rfl rfl rfl rfl rfl ⟨rfl, rfl, rfl, rfl, rfl⟩ rfl rfl rfl rfl rfl (by kernel_rfl) Try.func7 (by kernel_rfl)
    (of_decide_eq_true (by kernel_rfl)) (by unfold Func.isWrapper; first | (rw [if_pos (by decide +kernel)]; kernel_rfl) | (rw [if_neg (by decide +kernel)]; exact ⟨rfl, rfl⟩))
    (fun os started H enc _ => lifted os started H enc)

end Go.Proofs.Ytaidaohkbbdimaa.fnUpdated
