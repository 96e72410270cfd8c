/-
  FnMaps: whatever the operations: a tree of its map is the same. No condition.
-/
import Derived.Test.YtaidaohkbbdimabLB
import Derived.Test.YtaidaohkbbdimabWZ
import Derived.Test.YtaidaohkbbdimabWY
namespace Go.Proofs.Ytaidaohkbbdimab
open Go.RowKit

set_option maxHeartbeats 4000000 in
set_option maxRecDepth 100000 in
theorem fnMaps_any {w : World} {A : Option Addr} {c : Nat} {ops : List Opr} (h : Rd w 3 A ops.length (flat opc ops)) :
    Calls Try.prog 13 #[.slice A ops.length c] w (Ans w (.bool true)) := by
  have hZ := zzFits1_any (c := c) h
  have HR := Lib.hid h
  clear h
  cases h1 : fits1 ops with
  | false =>
    rw [h1] at hZ
    clear h1
    go_enter Try.func13, Try.ntmps13
    go_wp2_with fail
    refine hZ.mono ?_
    rintro e w1 ⟨rfl, hb1⟩
    go_wp2_with fail
    go_ret
    exact ⟨rfl, hb1⟩
  | true =>
    rw [h1] at hZ
    have hm := fits1_len h1
    clear h1
    have hF := fun W (hW : Below w.heap.size w W) => fit_any (c := c) (HR.out.bel hW) hm
    cases h3 : fit ops with
    | false =>
      rw [h3] at hF
      have HF := Lib.hid hF
      clear h3 hm hF
      go_enter Try.func13, Try.ntmps13
      go_wp2_with fail
      refine hZ.mono ?_
      rintro e w1 ⟨rfl, hb1⟩
      go_wp2_with fail
      refine (HF.out w1 hb1).mono ?_
      rintro e w2 ⟨rfl, hb2⟩
      go_wp2_with fail
      go_ret
      exact ⟨rfl, hb1.trans (hb2.mono hb1.size)⟩
    | true =>
      rw [h3] at hF
      have HF := Lib.hid hF
      have H3 := Lib.hid (fit_oks h3)
      clear h3 hF
      go_enter Try.func13, Try.ntmps13
      go_wp2_with fail
      refine hZ.mono ?_
      rintro e w1 ⟨rfl, hb1⟩
      go_wp2_with fail
      refine (HF.out w1 hb1).mono ?_
      rintro e w2 ⟨rfl, hb2⟩
      have hb3 := hb1.trans (hb2.mono hb1.size)
      clear hb1 hb2 hZ HF
      go_wp2_with fail
      clear hm
      have hfr := fit_rows H3.out
      have HLR : Hid ((rows ops).length ≤ 1000) := Lib.hid (by omega)
      have HKR : Hid (∀ x ∈ rows ops, x.1.length ≤ 1000) := Lib.hid (fun x hx => Nat.le_trans (hfr.2 x hx) (by omega))
      clear hfr
      refine (iToMap_any (HR.out.bel hb3) (oks_of (oks_fit H3.out)) HKR.out).mono ?_
      rintro e w11 ⟨ba, rfl, ha, hc, _⟩
      have Ha := Lib.hid ha
      clear ha
      have hb11 := hb3.trans (hc.mono hb3.size)
      clear hc hb3
      go_wp2_with fail
      refine (iFromMap_any Ha.out HKR.out HLR.out).mono ?_
      rintro e w12 ⟨Ar, cr, rfl, hr, hc⟩
      have Hr := Lib.hid hr
      clear hr
      replace Ha := Lib.hid (Ha.out.bel hc)
      have hb12 := hb11.trans (hc.mono hb11.size)
      clear hc hb11
      clear Ha
      go_wp2_with fail
      refine (iWalk0_any (HR.out.bel hb12) (oks_of (oks_fit H3.out))).mono ?_
      rintro e w13 ⟨Ax, cx, rfl, hx, hc⟩
      have Hx := Lib.hid hx
      clear hx
      replace Hr := Lib.hid (Hr.out.bel hc)
      have hb13 := hb12.trans (hc.mono hb12.size)
      clear hc hb12
      go_wp2_with fail
      refine (sameRows_any Hr.out Hx.out (by have := HLR.out; omega)).mono ?_
      rintro e w14 ⟨rfl, hc⟩
      rw [decide_eq_true rfl]
      have hb14 := hb13.trans (hc.mono hb13.size)
      clear hc hb13
      clear Hr Hx
      go_wp2_with fail
      refine (iLen_any (HR.out.bel hb14) (oks_of (oks_fit H3.out))).mono ?_
      rintro e w15 ⟨rfl, hc⟩
      have hb15 := hb14.trans (hc.mono hb14.size)
      clear hc hb14
      go_wp2_with fail
      refine (sRows_any (HR.out.bel hb15) (by have := H3.out.1; omega)).mono ?_
      rintro e w16 ⟨Ab, cb, rfl, hb, hc⟩
      have Hb := Lib.hid hb
      clear hb
      have hb16 := hb15.trans (hc.mono hb15.size)
      clear hc hb15
      go_wp2_with fail
      go_ret
      first | exact ⟨rfl, hb16⟩ | exact ⟨rfl, hb16.alloc hb16.size _⟩

end Go.Proofs.Ytaidaohkbbdimab

namespace Go.Proofs.Ytaidaohkbbdimab.fnMaps
open Go.ChangeShapes Go.WideShapes Go.ChangeAt Go.RowKit Go.ChangeMaps

set_option maxRecDepth 100000 in
theorem lifted (os : Os) (started : os.Started) (H : Type) (enc : TypeId × Value → H) :
    ReturnsInHanded {} Try.checked os 13 .any (Rows.fnMapsSpec.pre6 enc Try.prog Try.f13 Rows.fnMapsRow.domain false) (Rows.fnMapsSpec.post enc Try.prog Try.f13 false true false false) := by
  refine returnsInHanded_of_change (C := Try.checked) own started (by kernel_rfl) Try.func13
    (ChangeSpec.witness6 (enc := enc) (C := Try.checked) false ⟨#[], #[.slice none 0 0], []⟩ 8 (by kernel_rfl) (by kernel_rfl) (by kernel_rfl) (by kernel_rfl)) ?_
  intro W base args ds gs before hval0 hW hcnd _
  have hval : ∀ (j : Nat) t v, Try.f13.params[j]? = some t → args[j]? = some v → Value.okWide Try.prog W .any base t v := hval0
  have hW' := hW
  obtain ⟨p, q, hA0, hV, rfl, hfz, hnd⟩ := hW
  obtain ⟨rfl, rfl⟩ := trodVars_none hV
  rw [List.append_nil] at hW'
  have hA : DataW.TrodAll enc Try.prog W 0 (fun _ => true) true Try.f13.params.toList args.toList ds p := hA0
  have hA1 := hA
  rw [Try.params13] at hA hval
  obtain ⟨v0, vs0, d0, ds0, p0, q0, hargs, rfl, rfl, h0, r0⟩ := trodAll_cons hA
  obtain ⟨rfl, rfl, rfl⟩ := trodAll_nil r0
  obtain rfl : args = #[v0] := by cases args; simp_all
  obtain ⟨A0, c0, ops0, rfl, hR0⟩ := open_ops (hval 0 22 v0 rfl rfl) h0
  have hC := fnMaps_any (c := c0) hR0
  exact hC.mono fun e W' ha => law_post hW' hA1 rfl rfl (by rw [Try.params13]; decide +kernel) (by kernel_rfl) rfl ha

theorem proved : Rows.FnMapsSaid :=
  OpenClaim.holds_of_wide 13 Try.f13 rfl rfl rfl rfl rfl rfl rfl ⟨rfl, rfl, rfl, rfl, rfl⟩ rfl rfl rfl rfl rfl (by kernel_rfl) Try.func13 (by kernel_rfl)
    (of_decide_eq_true (by kernel_rfl)) (by unfold Func.isWrapper; first | (rw [if_pos (by decide +kernel)]; kernel_rfl) | (rw [if_neg (by decide +kernel)]; exact ⟨rfl, rfl⟩))
    (fun os started H enc _ => lifted os started H enc)

end Go.Proofs.Ytaidaohkbbdimab.fnMaps
