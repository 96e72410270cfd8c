/-
  FnExactWalk: whatever the operations and the number: walking meets all entries in the order of their keys, as many as are asked. No condition.
-/
import Derived.Test.YtaidaohkbbdimabLB
namespace Go.Proofs.Ytaidaohkbbdimab
open Go.RowKit

set_option maxHeartbeats 4000000 in
set_option maxRecDepth 100000 in
theorem fnExactWalk_any {w : World} {A : Option Addr} {c : Nat} {ops : List Opr} (v : Int) (h : Rd w 3 A ops.length (flat opc ops)) :
    Calls Try.prog 3 #[.slice A ops.length c, .int .i64 v] w (Ans w (.bool true)) := by
  have hZ := zzFits1_any (c := c) h
  have HR := Lib.hid h
  clear h
  cases h1 : fits1 ops with
  | false =>
    rw [h1] at hZ
    clear h1
    go_enter Try.func3, Try.ntmps3
    go_wp2_with fail
    refine hZ.mono ?_
    rintro e w1 ⟨rfl, hb1⟩
    go_wp2_with fail
    go_ret
    exact ⟨rfl, hb1⟩
  | true =>
    rw [h1] at hZ
    have hm := fits1_len h1
    clear h1
    have hF := fun W (hW : Below w.heap.size w W) => fit_any (c := c) (HR.out.bel hW) hm
    cases h3 : fit ops with
    | false =>
      rw [h3] at hF
      have HF := Lib.hid hF
      clear h3 hm hF
      go_enter Try.func3, Try.ntmps3
      go_wp2_with fail
      refine hZ.mono ?_
      rintro e w1 ⟨rfl, hb1⟩
      go_wp2_with fail
      refine (HF.out w1 hb1).mono ?_
      rintro e w2 ⟨rfl, hb2⟩
      go_wp2_with fail
      go_ret
      exact ⟨rfl, hb1.trans (hb2.mono hb1.size)⟩
    | true =>
      rw [h3] at hF
      have HF := Lib.hid hF
      have H3 := Lib.hid (fit_oks h3)
      clear h3 hF
      go_enter Try.func3, Try.ntmps3
      go_wp2_with fail
      refine hZ.mono ?_
      rintro e w1 ⟨rfl, hb1⟩
      go_wp2_with fail
      refine (HF.out w1 hb1).mono ?_
      rintro e w2 ⟨rfl, hb2⟩
      have hb3 := hb1.trans (hb2.mono hb1.size)
      clear hb1 hb2 hZ HF
      go_wp2_with fail
      clear hm
      refine (iWalk_any v (HR.out.bel hb3) (oks_of (oks_fit H3.out))).mono ?_
      rintro e w11 ⟨Aa, ca, rfl, ha, hc⟩
      have Ha := Lib.hid ha
      clear ha
      have hb11 := hb3.trans (hc.mono hb3.size)
      clear hc hb3
      go_wp2_with fail
      refine (sRows_cap (HR.out.bel hb11) (by have := H3.out.1; omega)).mono ?_
      rintro e w12 ⟨Ab, cb, rfl, hb, hc, hkb⟩
      have Hb := Lib.hid hb
      clear hb
      replace Ha := Lib.hid (Ha.out.bel hc)
      have hb12 := hb11.trans (hc.mono hb11.size)
      clear hc hb11
      go_wp2_with fail
      refine (first_any v Hb.out hkb).mono ?_
      rintro e w13 ⟨Af, cf, rfl, hf, hc⟩
      have Hf := Lib.hid hf
      clear hf
      replace Ha := Lib.hid (Ha.out.bel hc)
      replace Hb := Lib.hid (Hb.out.bel hc)
      have hb13 := hb12.trans (hc.mono hb12.size)
      clear hc hb12
      go_wp2_with fail
      refine (sameRows_any Ha.out Hf.out (by have := H3.out.1; have := len_rows ops; have := len_first (rows ops) v; omega)).mono ?_
      rintro e w14 ⟨rfl, hc⟩
      rw [decide_eq_true rfl]
      replace Ha := Lib.hid (Ha.out.bel hc)
      replace Hb := Lib.hid (Hb.out.bel hc)
      replace Hf := Lib.hid (Hf.out.bel hc)
      have hb14 := hb13.trans (hc.mono hb13.size)
      clear hc hb13
      go_wp2_with fail
      go_ret
      exact ⟨rfl, hb14⟩

end Go.Proofs.Ytaidaohkbbdimab

namespace Go.Proofs.Ytaidaohkbbdimab.fnExactWalk
open Go.ChangeShapes Go.WideShapes Go.ChangeAt Go.RowKit Go.ChangeMaps

set_option maxRecDepth 100000 in
theorem lifted (os : Os) (started : os.Started) (H : Type) (enc : TypeId × Value → H) :
    ReturnsInHanded {} Try.checked os 3 .any (Rows.fnExactWalkSpec.pre6 enc Try.prog Try.f3 Rows.fnExactWalkRow.domain false) (Rows.fnExactWalkSpec.post enc Try.prog Try.f3 false true false false) := by
  refine returnsInHanded_of_change (C := Try.checked) own started (by kernel_rfl) Try.func3
    (ChangeSpec.witness6 (enc := enc) (C := Try.checked) false ⟨#[], #[.slice none 0 0, .int .i64 0], []⟩ 8 (by kernel_rfl) (by kernel_rfl) (by kernel_rfl) (by kernel_rfl)) ?_
  intro W base args ds gs before hval0 hW hcnd _
  have hval : ∀ (j : Nat) t v, Try.f3.params[j]? = some t → args[j]? = some v → Value.okWide Try.prog W .any base t v := hval0
  have hW' := hW
  obtain ⟨p, q, hA0, hV, rfl, hfz, hnd⟩ := hW
  obtain ⟨rfl, rfl⟩ := trodVars_none hV
  rw [List.append_nil] at hW'
  have hA : DataW.TrodAll enc Try.prog W 0 (fun _ => true) true Try.f3.params.toList args.toList ds p := hA0
  have hA1 := hA
  rw [Try.params3] at hA hval
  obtain ⟨v0, vs0, d0, ds0, p0, q0, hargs, rfl, rfl, h0, r0⟩ := trodAll_cons hA
  obtain ⟨v1, vs1, d1, ds1, p1, q1, rfl, rfl, rfl, h1, r1⟩ := trodAll_cons r0
  obtain ⟨rfl, rfl, rfl⟩ := trodAll_nil r1
  obtain rfl : args = #[v0, v1] := by cases args; simp_all
  obtain ⟨A0, c0, ops0, rfl, hR0⟩ := open_ops (hval 0 22 v0 rfl rfl) h0
  obtain ⟨i1, rfl, _, _, hwf1⟩ := open_int Try.underlying3 (hval 1 3 v1 rfl rfl) h1
  have hC := fnExactWalk_any (c := c0) i1 hR0
  exact hC.mono fun e W' ha => law_post hW' hA1 rfl rfl (by rw [Try.params3]; decide +kernel) (by kernel_rfl) rfl ha

theorem proved : Rows.FnExactWalkSaid :=
  OpenClaim.holds_of_wide 3 Try.f3 rfl rfl rfl rfl rfl rfl rfl ⟨rfl, rfl, rfl, rfl, rfl⟩ rfl rfl rfl rfl rfl (by kernel_rfl) Try.func3 (by kernel_rfl)
    (of_decide_eq_true (by kernel_rfl)) (by unfold Func.isWrapper; first | (rw [if_pos (by decide +kernel)]; kernel_rfl) | (rw [if_neg (by decide +kernel)]; exact ⟨rfl, rfl⟩))
    (fun os started H enc _ => lifted os started H enc)

end Go.Proofs.Ytaidaohkbbdimab.fnExactWalk
