/-
  FnOrder: whatever the operations: the order of insertions of different keys does not matter. No condition.
-/
import Derived.Test.YtaidaohkbbdimabLB
import Derived.Test.YtaidaohkbbdimabWU
namespace Go.Proofs.Ytaidaohkbbdimab
open Go.RowKit

theorem order_rows (ops : List Opr) : rows ((rows ops).map putOp).reverse = rows ops := by
  rw [← List.map_reverse]
  exact rows_rev (srt_rows ops)

set_option maxHeartbeats 4000000 in
set_option maxRecDepth 100000 in
theorem fnOrder_any {w : World} {A : Option Addr} {c : Nat} {ops : List Opr} (h : Rd w 3 A ops.length (flat opc ops)) :
    Calls Try.prog 4 #[.slice A ops.length c] w (Ans w (.bool true)) := by
  have hZ := zzFits1_any (c := c) h
  have HR := Lib.hid h
  clear h
  cases h1 : fits1 ops with
  | false =>
    rw [h1] at hZ
    clear h1
    go_enter Try.func4, Try.ntmps4
    go_wp2_with fail
    refine hZ.mono ?_
    rintro e w1 ⟨rfl, hb1⟩
    go_wp2_with fail
    go_ret
    exact ⟨rfl, hb1⟩
  | true =>
    rw [h1] at hZ
    have hm := fits1_len h1
    clear h1
    have hF := fun W (hW : Below w.heap.size w W) => fit_any (c := c) (HR.out.bel hW) hm
    cases h3 : fit ops with
    | false =>
      rw [h3] at hF
      have HF := Lib.hid hF
      clear h3 hm hF
      go_enter Try.func4, Try.ntmps4
      go_wp2_with fail
      refine hZ.mono ?_
      rintro e w1 ⟨rfl, hb1⟩
      go_wp2_with fail
      refine (HF.out w1 hb1).mono ?_
      rintro e w2 ⟨rfl, hb2⟩
      go_wp2_with fail
      go_ret
      exact ⟨rfl, hb1.trans (hb2.mono hb1.size)⟩
    | true =>
      rw [h3] at hF
      have HF := Lib.hid hF
      have H3 := Lib.hid (fit_oks h3)
      clear h3 hF
      go_enter Try.func4, Try.ntmps4
      go_wp2_with fail
      refine hZ.mono ?_
      rintro e w1 ⟨rfl, hb1⟩
      go_wp2_with fail
      refine (HF.out w1 hb1).mono ?_
      rintro e w2 ⟨rfl, hb2⟩
      have hb3 := hb1.trans (hb2.mono hb1.size)
      clear hb1 hb2 hZ HF
      go_wp2_with fail
      clear hm
      obtain ⟨P, hP⟩ : ∃ P, P = (rows ops).map putOp := ⟨_, rfl⟩
      obtain ⟨Q, hQ⟩ : ∃ Q, Q = P.reverse := ⟨_, rfl⟩
      have hfr := fit_rows H3.out
      have hop := oks_puts hfr.1 hfr.2
      have HO : Hid (Oks P) := Lib.hid (by rw [hP]; exact oks_of (oks_fit hop))
      have HOR : Hid (Oks Q) := Lib.hid (by rw [hQ, hP]; exact ⟨by rw [List.length_reverse]; omega, fun o ho => (oks_fit hop).2 o (List.mem_reverse.1 ho)⟩)
      have HRP : Hid (rows P = rows ops) := Lib.hid (by rw [hP]; exact rows_own (srt_rows ops))
      have HRR : Hid (rows Q = rows ops) := Lib.hid (by rw [hQ, hP]; exact order_rows ops)
      have HLR : Hid ((rows ops).length ≤ 1000) := Lib.hid (by omega)
      have HP := Lib.hid hP
      have HQ := Lib.hid hQ
      clear hP hQ hfr hop
      refine (sRows_any (HR.out.bel hb3) (by have := H3.out.1; omega)).mono ?_
      rintro e w11 ⟨Ab, cb, rfl, hb, hc⟩
      have Hb := Lib.hid hb
      clear hb
      have hb11 := hb3.trans (hc.mono hb3.size)
      clear hc hb3
      go_wp2_with fail
      refine (ops_any Hb.out HLR.out).mono ?_
      rintro e w12 ⟨Ao, co, rfl, ho, hc⟩
      rw [← HP.out] at ho ⊢
      have Ho := Lib.hid ho
      clear ho
      have hb12 := hb11.trans (hc.mono hb11.size)
      clear hc hb11
      clear Hb
      go_wp2_with fail
      refine (turned_any Ho.out HO.out.len).mono ?_
      rintro e w13 ⟨At, ct, rfl, ht, hc⟩
      rw [← HQ.out] at ht ⊢
      have Ht := Lib.hid ht
      clear ht
      replace Ho := Lib.hid (Ho.out.bel hc)
      have hb13 := hb12.trans (hc.mono hb12.size)
      clear hc hb12
      go_wp2_with fail
      refine (iWalk0_any Ht.out HOR.out).mono ?_
      rintro e w14 ⟨Ax, cx, rfl, hx, hc⟩
      rw [HRR.out] at hx ⊢
      have Hx := Lib.hid hx
      clear hx
      replace Ho := Lib.hid (Ho.out.bel hc)
      have hb14 := hb13.trans (hc.mono hb13.size)
      clear hc hb13
      clear Ht
      go_wp2_with fail
      refine (iWalk0_any Ho.out HO.out).mono ?_
      rintro e w15 ⟨Ay, cy, rfl, hy, hc⟩
      rw [HRP.out] at hy ⊢
      have Hy := Lib.hid hy
      clear hy
      replace Ho := Lib.hid (Ho.out.bel hc)
      replace Hx := Lib.hid (Hx.out.bel hc)
      have hb15 := hb14.trans (hc.mono hb14.size)
      clear hc hb14
      go_wp2_with fail
      refine (sameRows_any Hx.out Hy.out (by have := HLR.out; omega)).mono ?_
      rintro e w16 ⟨rfl, hc⟩
      rw [decide_eq_true rfl]
      replace Ho := Lib.hid (Ho.out.bel hc)
      have hb16 := hb15.trans (hc.mono hb15.size)
      clear hc hb15
      clear Hx Hy
      go_wp2_with fail
      refine (iWalk0_any Ho.out HO.out).mono ?_
      rintro e w17 ⟨Ay, cy, rfl, hy, hc⟩
      rw [HRP.out] at hy ⊢
      have Hy := Lib.hid hy
      clear hy
      have hb17 := hb16.trans (hc.mono hb16.size)
      clear hc hb16
      clear Ho
      go_wp2_with fail
      refine (sRows_any (HR.out.bel hb17) (by have := H3.out.1; omega)).mono ?_
      rintro e w18 ⟨Ab, cb, rfl, hb, hc⟩
      have Hb := Lib.hid hb
      clear hb
      replace Hy := Lib.hid (Hy.out.bel hc)
      have hb18 := hb17.trans (hc.mono hb17.size)
      clear hc hb17
      go_wp2_with fail
      refine (sameRows_any Hy.out Hb.out (by have := HLR.out; omega)).mono ?_
      rintro e w19 ⟨rfl, hc⟩
      rw [decide_eq_true rfl]
      replace Hy := Lib.hid (Hy.out.bel hc)
      replace Hb := Lib.hid (Hb.out.bel hc)
      have hb19 := hb18.trans (hc.mono hb18.size)
      clear hc hb18
      go_wp2_with fail
      go_ret
      first | exact ⟨rfl, hb19⟩ | exact ⟨rfl, hb19.alloc hb19.size _⟩

end Go.Proofs.Ytaidaohkbbdimab

namespace Go.Proofs.Ytaidaohkbbdimab.fnOrder
open Go.ChangeShapes Go.WideShapes Go.ChangeAt Go.RowKit Go.ChangeMaps

set_option maxRecDepth 100000 in
theorem lifted (os : Os) (started : os.Started) (H : Type) (enc : TypeId × Value → H) :
    ReturnsInHanded {} Try.checked os 4 .any (Rows.fnOrderSpec.pre6 enc Try.prog Try.f4 Rows.fnOrderRow.domain false) (Rows.fnOrderSpec.post enc Try.prog Try.f4 false true false false) := by
  refine returnsInHanded_of_change (C := Try.checked) own started (by kernel_rfl) Try.func4
    (ChangeSpec.witness6 (enc := enc) (C := Try.checked) false ⟨#[], #[.slice none 0 0], []⟩ 8 (by kernel_rfl) (by kernel_rfl) (by kernel_rfl) (by kernel_rfl)) ?_
  intro W base args ds gs before hval0 hW hcnd _
  have hval : ∀ (j : Nat) t v, Try.f4.params[j]? = some t → args[j]? = some v → Value.okWide Try.prog W .any base t v := hval0
  have hW' := hW
  obtain ⟨p, q, hA0, hV, rfl, hfz, hnd⟩ := hW
  obtain ⟨rfl, rfl⟩ := trodVars_none hV
  rw [List.append_nil] at hW'
  have hA : DataW.TrodAll enc Try.prog W 0 (fun _ => true) true Try.f4.params.toList args.toList ds p := hA0
  have hA1 := hA
  rw [Try.params4] at hA hval
  obtain ⟨v0, vs0, d0, ds0, p0, q0, hargs, rfl, rfl, h0, r0⟩ := trodAll_cons hA
  obtain ⟨rfl, rfl, rfl⟩ := trodAll_nil r0
  obtain rfl : args = #[v0] := by cases args; simp_all
  obtain ⟨A0, c0, ops0, rfl, hR0⟩ := open_ops (hval 0 22 v0 rfl rfl) h0
  have hC := fnOrder_any (c := c0) hR0
  exact hC.mono fun e W' ha => law_post hW' hA1 rfl rfl (by rw [Try.params4]; decide +kernel) (by kernel_rfl) rfl ha

theorem proved : Rows.FnOrderSaid :=
  OpenClaim.holds_of_wide 4 Try.f4 rfl rfl rfl rfl rfl rfl rfl ⟨rfl, rfl, rfl, rfl, rfl⟩ rfl rfl rfl rfl rfl (by kernel_rfl) Try.func4 (by kernel_rfl)
    (of_decide_eq_true (by kernel_rfl)) (by unfold Func.isWrapper; first | (rw [if_pos (by decide +kernel)]; kernel_rfl) | (rw [if_neg (by decide +kernel)]; exact ⟨rfl, rfl⟩))
    (fun os started H enc _ => lifted os started H enc)

end Go.Proofs.Ytaidaohkbbdimab.fnOrder
