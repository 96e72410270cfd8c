/-
  FnUndone: whatever the operations, the key and the value: a deletion undoes an insertion of what was not there. No condition.
-/
import Derived.Test.YtaidaohkbbdimabLB
namespace Go.Proofs.Ytaidaohkbbdimab
open Go.RowKit

theorem undone_rows {ops : List Opr} {s : Bs} {v : Int} (h : (look (rows ops) s).isSome = false) : rows (ops ++ [putO s v, delO s]) = rows ops := by
  rw [rows_app]
  show step (step (rows ops) (putO s v)) (delO s) = _
  have h1 : step (rows ops) (putO s v) = put (rows ops) s v := by simp [step, putO]
  have h2 : ∀ l, step l (delO s) = drop1 l s := fun l => by simp [step, delO]
  rw [h1, h2, drop1_put (srt_rows ops), drop1_none (by simpa using h)]

set_option maxHeartbeats 4000000 in
set_option maxRecDepth 100000 in
theorem fnUndone_any {w : World} {A : Option Addr} {c : Nat} {ops : List Opr} (s : Bs) (v : Int) (h : Rd w 3 A ops.length (flat opc ops)) :
    Calls Try.prog 14 #[.slice A ops.length c, .string (ba s), .int .i64 v] w (Ans w (.bool true)) := by
  have hZ := zzFits1_any (c := c) h
  have hS := ba_size s
  obtain ⟨S, hSS⟩ : ∃ S, S = ba s := ⟨_, rfl⟩
  rw [← hSS] at hS
  rw [← hSS]
  have HSS := Lib.hid hSS
  have HS := Lib.hid hS
  clear hSS hS
  have HR := Lib.hid h
  clear h
  cases h1 : fits1 ops with
  | false =>
    rw [h1] at hZ
    clear h1
    go_enter Try.func14, Try.ntmps14
    go_wp2_with fail
    refine hZ.mono ?_
    rintro e w1 ⟨rfl, hb1⟩
    go_wp2_with fail
    go_ret
    exact ⟨rfl, hb1⟩
  | true =>
    rw [h1] at hZ
    have hm := fits1_len h1
    clear h1
    by_cases h2 : S.size ≤ 2147483647
    · have hc2 : decide ((2147483647 : Int) < (S.size : Int)) = false := decide_eq_false (by omega)
      have hF := fun W (hW : Below w.heap.size w W) => fit_any (c := c) (HR.out.bel hW) hm
      cases h3 : fit ops with
      | false =>
        rw [h3] at hF
        have HF := Lib.hid hF
        clear h3 hm hF
        go_enter Try.func14, Try.ntmps14
        go_wp2_with fail
        refine hZ.mono ?_
        rintro e w1 ⟨rfl, hb1⟩
        go_wp2_with fail
        refine (HF.out w1 hb1).mono ?_
        rintro e w2 ⟨rfl, hb2⟩
        go_wp2_with fail
        go_ret
        exact ⟨rfl, hb1.trans (hb2.mono hb1.size)⟩
      | true =>
        rw [h3] at hF
        have HF := Lib.hid hF
        have H3 := Lib.hid (fit_oks h3)
        clear h3 hF
        by_cases h4 : S.size ≤ 200
        · have hc4 : decide ((200 : Int) < (S.size : Int)) = false := decide_eq_false (by omega)
          have H4 : Hid (s.length ≤ 200) := Lib.hid (by have := HS.out; omega)
          clear h2 h4
          go_enter Try.func14, Try.ntmps14
          go_wp2_with fail
          refine hZ.mono ?_
          rintro e w1 ⟨rfl, hb1⟩
          go_wp2_with fail
          refine (HF.out w1 hb1).mono ?_
          rintro e w2 ⟨rfl, hb2⟩
          have hb3 := hb1.trans (hb2.mono hb1.size)
          clear hb1 hb2 hZ HF
          go_wp2_with fail
          clear hc2 hc4 hm
          have hL3 := H3.out.1
          obtain ⟨M, hM⟩ : ∃ M, M = ops ++ [putO s v, delO s] := ⟨_, rfl⟩
          obtain ⟨B, hB⟩ : ∃ B, B = (look (rows ops) s).isSome := ⟨_, rfl⟩
          have HM := Lib.hid hM
          have HO : Hid (Oks M) := Lib.hid (by rw [hM]; exact oks_app (oks_fit H3.out) (by simp) (by simp [putO, delO]; have := H4.out; omega))
          have HRW : Hid (B = false → rows M = rows ops) := Lib.hid (fun h => by rw [hM]; exact undone_rows (by rw [← hB]; exact h))
          have hGet := iGet_any (c := c) s (HR.out.bel hb3) (oks_of (oks_fit H3.out))
          rw [← hB, ← HSS.out] at hGet
          generalize (look (rows ops) s).getD 0 = V at hGet
          have HGet := Lib.hid hGet
          clear hM hB hGet
          refine (HGet.out).mono ?_
          rintro e w11 ⟨rfl, hc⟩
          have hb11 := hb3.trans (hc.mono hb3.size)
          clear hc hb3
          go_wp2_with fail
          clear HGet
          refine (then_lit (b := [putO s v, delO s]) HM.out (HR.out.bel hb11) rfl (by rw [HSS.out]; rfl) (by have := H3.out.1; simp; omega) rfl).mono ?_
          rintro e w12 ⟨Am, cm, rfl, hm, hc⟩
          have Hm := Lib.hid hm
          clear hm
          have hb12 := hb11.trans (hc.mono hb11.size)
          clear hc hb11
          cases B with
          | true =>
            go_wp2_with fail
            go_ret
            exact ⟨rfl, hb12⟩
          | false =>
            go_wp2_with fail
            refine (iWalk0_any Hm.out HO.out).mono ?_
            rintro e w13 ⟨Aa, ca, rfl, ha, hc⟩
            rw [HRW.out (by first | rfl | trivial)] at ha ⊢
            have Ha := Lib.hid ha
            clear ha
            replace Hm := Lib.hid (Hm.out.bel hc)
            have hb13 := hb12.trans (hc.mono hb12.size)
            clear hc hb12
            go_wp2_with fail
            refine (sRows_any (HR.out.bel hb13) (by have := H3.out.1; omega)).mono ?_
            rintro e w14 ⟨Ab, cb, rfl, hb, hc⟩
            have Hb := Lib.hid hb
            clear hb
            replace Hm := Lib.hid (Hm.out.bel hc)
            replace Ha := Lib.hid (Ha.out.bel hc)
            have hb14 := hb13.trans (hc.mono hb13.size)
            clear hc hb13
            go_wp2_with fail
            refine (sameRows_any Ha.out Hb.out (by have := H3.out.1; have := len_rows ops; omega)).mono ?_
            rintro e w15 ⟨rfl, hc⟩
            rw [decide_eq_true rfl]
            replace Hm := Lib.hid (Hm.out.bel hc)
            replace Ha := Lib.hid (Ha.out.bel hc)
            replace Hb := Lib.hid (Hb.out.bel hc)
            have hb15 := hb14.trans (hc.mono hb14.size)
            clear hc hb14
            go_wp2_with fail
            go_ret
            exact ⟨rfl, hb15⟩
        · have hc4 : decide ((200 : Int) < (S.size : Int)) = true := decide_eq_true (by omega)
          clear h2 h4 hm
          go_enter Try.func14, Try.ntmps14
          go_wp2_with fail
          refine hZ.mono ?_
          rintro e w1 ⟨rfl, hb1⟩
          go_wp2_with fail
          refine (HF.out w1 hb1).mono ?_
          rintro e w2 ⟨rfl, hb2⟩
          go_wp2_with fail
          go_ret
          exact ⟨rfl, hb1.trans (hb2.mono hb1.size)⟩
    · have hc2 : decide ((2147483647 : Int) < (S.size : Int)) = true := decide_eq_true (by omega)
      clear h2 hm
      go_enter Try.func14, Try.ntmps14
      go_wp2_with fail
      refine hZ.mono ?_
      rintro e w1 ⟨rfl, hb1⟩
      go_wp2_with fail
      go_ret
      exact ⟨rfl, hb1⟩

end Go.Proofs.Ytaidaohkbbdimab

namespace Go.Proofs.Ytaidaohkbbdimab.fnUndone
open Go.ChangeShapes Go.WideShapes Go.ChangeAt Go.RowKit Go.ChangeMaps

set_option maxRecDepth 100000 in
theorem lifted (os : Os) (started : os.Started) (H : Type) (enc : TypeId × Value → H) :
    ReturnsInHanded {} Try.checked os 14 .any (Rows.fnUndoneSpec.pre6 enc Try.prog Try.f14 Rows.fnUndoneRow.domain false) (Rows.fnUndoneSpec.post enc Try.prog Try.f14 false true false false) := by
  refine returnsInHanded_of_change (C := Try.checked) own started (by kernel_rfl) Try.func14
    (ChangeSpec.witness6 (enc := enc) (C := Try.checked) false ⟨#[], #[.slice none 0 0, .string ⟨#[]⟩, .int .i64 0], []⟩ 8 (by kernel_rfl) (by kernel_rfl) (by kernel_rfl) (by kernel_rfl)) ?_
  intro W base args ds gs before hval0 hW hcnd _
  have hval : ∀ (j : Nat) t v, Try.f14.params[j]? = some t → args[j]? = some v → Value.okWide Try.prog W .any base t v := hval0
  have hW' := hW
  obtain ⟨p, q, hA0, hV, rfl, hfz, hnd⟩ := hW
  obtain ⟨rfl, rfl⟩ := trodVars_none hV
  rw [List.append_nil] at hW'
  have hA : DataW.TrodAll enc Try.prog W 0 (fun _ => true) true Try.f14.params.toList args.toList ds p := hA0
  have hA1 := hA
  rw [Try.params14] at hA hval
  obtain ⟨v0, vs0, d0, ds0, p0, q0, hargs, rfl, rfl, h0, r0⟩ := trodAll_cons hA
  obtain ⟨v1, vs1, d1, ds1, p1, q1, rfl, rfl, rfl, h1, r1⟩ := trodAll_cons r0
  obtain ⟨v2, vs2, d2, ds2, p2, q2, rfl, rfl, rfl, h2, r2⟩ := trodAll_cons r1
  obtain ⟨rfl, rfl, rfl⟩ := trodAll_nil r2
  obtain rfl : args = #[v0, v1, v2] := by cases args; simp_all
  obtain ⟨A0, c0, ops0, rfl, hR0⟩ := open_ops (hval 0 22 v0 rfl rfl) h0
  obtain ⟨s1, rfl, _, _, _⟩ := open_string Try.underlying9 (hval 1 9 v1 rfl rfl) h1
  obtain ⟨i2, rfl, _, _, hwf2⟩ := open_int Try.underlying3 (hval 2 3 v2 rfl rfl) h2
  have hC := fnUndone_any (c := c0) s1.data.toList i2 hR0
  rw [ba_bs] at hC
  exact hC.mono fun e W' ha => law_post hW' hA1 rfl rfl (by rw [Try.params14]; decide +kernel) (by kernel_rfl) rfl ha

theorem proved : Rows.FnUndoneSaid :=
  OpenClaim.holds_of_wide 14 Try.f14 rfl rfl rfl rfl rfl rfl rfl ⟨rfl, rfl, rfl, rfl, rfl⟩ rfl rfl rfl rfl rfl (by kernel_rfl) Try.func14 (by kernel_rfl)
    (of_decide_eq_true (by kernel_rfl)) (by unfold Func.isWrapper; first | (rw [if_pos (by decide +kernel)]; kernel_rfl) | (rw [if_neg (by decide +kernel)]; exact ⟨rfl, rfl⟩))
    (fun os started H enc _ => lifted os started H enc)

end Go.Proofs.Ytaidaohkbbdimab.fnUndone
