/-
  FnExactMax: whatever the operations, where nothing was deleted under a prefix: the maximum is the entry with the greatest key. No condition.
-/
import Derived.Test.YtaidaohkbbdimabLB
namespace Go.Proofs.Ytaidaohkbbdimab
open Go.RowKit

set_option maxHeartbeats 4000000 in
set_option maxRecDepth 100000 in
theorem fnExactMax_any {w : World} {A : Option Addr} {c : Nat} {ops : List Opr} (h : Rd w 3 A ops.length (flat opc ops)) :
    Calls Try.prog 6 #[.slice A ops.length c] w (Ans w (.bool true)) := by
  have hZ := zzFits1_any (c := c) h
  have HR := Lib.hid h
  clear h
  cases h1 : fits1 ops with
  | false =>
    rw [h1] at hZ
    clear h1
    go_enter Try.func6, Try.ntmps6
    go_wp2_with fail
    refine hZ.mono ?_
    rintro e w1 ⟨rfl, hb1⟩
    go_wp2_with fail
    go_ret
    exact ⟨rfl, hb1⟩
  | true =>
    rw [h1] at hZ
    have hm := fits1_len h1
    clear h1
    have hF := fun W (hW : Below w.heap.size w W) => fit_any (c := c) (HR.out.bel hW) hm
    cases h3 : fit ops with
    | false =>
      rw [h3] at hF
      have HF := Lib.hid hF
      clear h3 hm hF
      go_enter Try.func6, Try.ntmps6
      go_wp2_with fail
      refine hZ.mono ?_
      rintro e w1 ⟨rfl, hb1⟩
      go_wp2_with fail
      refine (HF.out w1 hb1).mono ?_
      rintro e w2 ⟨rfl, hb2⟩
      go_wp2_with fail
      go_ret
      exact ⟨rfl, hb1.trans (hb2.mono hb1.size)⟩
    | true =>
      rw [h3] at hF
      have HF := Lib.hid hF
      have H3 := Lib.hid (fit_oks h3)
      clear h3 hF
      go_enter Try.func6, Try.ntmps6
      go_wp2_with fail
      refine hZ.mono ?_
      rintro e w1 ⟨rfl, hb1⟩
      go_wp2_with fail
      refine (HF.out w1 hb1).mono ?_
      rintro e w2 ⟨rfl, hb2⟩
      have hb3 := hb1.trans (hb2.mono hb1.size)
      clear hb1 hb2 hZ HF
      go_wp2_with fail
      clear hm
      obtain ⟨C, hC⟩ : ∃ C, C = cuts ops := ⟨_, rfl⟩
      have HC := Lib.hid hC
      have HCUT : Hid (C = false → ∀ o ∈ ops, o.kind ≠ 2) := Lib.hid (fun h => cuts_no (hC.symm.trans h))
      clear hC
      refine (cuts_any (HR.out.bel hb3) (by have := H3.out.1; omega)).mono ?_
      rintro e w11 ⟨rfl, hc⟩
      rw [← HC.out]
      clear HC
      have hb11 := hb3.trans (hc.mono hb3.size)
      clear hc hb3
      cases C with
      | true =>
        go_wp2_with fail
        go_ret
        exact ⟨rfl, hb11⟩
      | false =>
        go_wp2_with fail
        refine (sRows_any (HR.out.bel hb11) (by have := H3.out.1; omega)).mono ?_
        rintro e w12 ⟨Ab, cb, rfl, hb, hc⟩
        have Hb := Lib.hid hb
        clear hb
        have hb12 := hb11.trans (hc.mono hb11.size)
        clear hc hb11
        go_wp2_with fail
        refine (last_any Hb.out (by have := H3.out.1; have := len_rows ops; omega)).mono ?_
        rintro e w13 ⟨rfl, hc⟩
        unfold rwv
        generalize hT : (rows ops).getLast? = T at *
        have HT := Lib.hid hT
        clear hT
        replace Hb := Lib.hid (Hb.out.bel hc)
        have hb13 := hb12.trans (hc.mono hb12.size)
        clear hc hb12
        go_wp2_with fail
        have hc := (Below.refl w13.heap.size w13).alloc (Nat.le_refl _) (.cells #[.string (ba (orow T).1), .int .i64 (orow T).2] 35)
        replace Hb := Lib.hid (Hb.out.bel hc)
        have hb14 := hb13.trans (hc.mono hb13.size)
        clear hc hb13
        have HBq := Lib.hid (Bk.new w13 35 #[.string (ba (orow T).1), .int .i64 (orow T).2])
        refine (iMax_any (HR.out.bel hb14) (oks_of (oks_fit H3.out)) (Or.inl (HCUT.out (by first | rfl | trivial)))).mono ?_
        rintro e w15 ⟨rfl, hc⟩
        unfold rwv
        rw [HT.out]
        replace Hb := Lib.hid (Hb.out.bel hc)
        replace HBq := Lib.hid (HBq.out.of (hc.block _ HBq.out.lt))
        have hb15 := hb14.trans (hc.mono hb14.size)
        clear hc hb14
        have kq0 : w15.cell? ⟨w13.heap.size, 0, none⟩ = some (.string (ba (orow T).1)) := by rw [HBq.out.cell]; rfl
        have kq1 : w15.cell? ⟨w13.heap.size, 1, none⟩ = some (.int .i64 (orow T).2) := by rw [HBq.out.cell]; rfl
        have klq := HBq.out.lt
        generalize ba (orow T).1 = z at *
        generalize (orow T).2 = y at *
        go_wp2_with fail
        go_ret
        first | exact ⟨rfl, hb15⟩ | exact ⟨rfl, hb15.alloc hb15.size _⟩

end Go.Proofs.Ytaidaohkbbdimab

namespace Go.Proofs.Ytaidaohkbbdimab.fnExactMax
open Go.ChangeShapes Go.WideShapes Go.ChangeAt Go.RowKit Go.ChangeMaps

set_option maxRecDepth 100000 in
theorem lifted (os : Os) (started : os.Started) (H : Type) (enc : TypeId × Value → H) :
    ReturnsInHanded {} Try.checked os 6 .any (Rows.fnExactMaxSpec.pre6 enc Try.prog Try.f6 Rows.fnExactMaxRow.domain false) (Rows.fnExactMaxSpec.post enc Try.prog Try.f6 false true false false) := by
  refine returnsInHanded_of_change (C := Try.checked) own started (by kernel_rfl) Try.func6
    (ChangeSpec.witness6 (enc := enc) (C := Try.checked) false ⟨#[], #[.slice none 0 0], []⟩ 8 (by kernel_rfl) (by kernel_rfl) (by kernel_rfl) (by kernel_rfl)) ?_
  intro W base args ds gs before hval0 hW hcnd _
  have hval : ∀ (j : Nat) t v, Try.f6.params[j]? = some t → args[j]? = some v → Value.okWide Try.prog W .any base t v := hval0
  have hW' := hW
  obtain ⟨p, q, hA0, hV, rfl, hfz, hnd⟩ := hW
  obtain ⟨rfl, rfl⟩ := trodVars_none hV
  rw [List.append_nil] at hW'
  have hA : DataW.TrodAll enc Try.prog W 0 (fun _ => true) true Try.f6.params.toList args.toList ds p := hA0
  have hA1 := hA
  rw [Try.params6] at hA hval
  obtain ⟨v0, vs0, d0, ds0, p0, q0, hargs, rfl, rfl, h0, r0⟩ := trodAll_cons hA
  obtain ⟨rfl, rfl, rfl⟩ := trodAll_nil r0
  obtain rfl : args = #[v0] := by cases args; simp_all
  obtain ⟨A0, c0, ops0, rfl, hR0⟩ := open_ops (hval 0 22 v0 rfl rfl) h0
  have hC := fnExactMax_any (c := c0) hR0
  exact hC.mono fun e W' ha => law_post hW' hA1 rfl rfl (by rw [Try.params6]; decide +kernel) (by kernel_rfl) rfl ha

theorem proved : Rows.FnExactMaxSaid :=
  OpenClaim.holds_of_wide 6 Try.f6 rfl rfl rfl rfl rfl rfl rfl ⟨rfl, rfl, rfl, rfl, rfl⟩ rfl rfl rfl rfl rfl (by kernel_rfl) Try.func6 (by kernel_rfl)
    (of_decide_eq_true (by kernel_rfl)) (by unfold Func.isWrapper; first | (rw [if_pos (by decide +kernel)]; kernel_rfl) | (rw [if_neg (by decide +kernel)]; exact ⟨rfl, rfl⟩))
    (fun os started H enc _ => lifted os started H enc)

end Go.Proofs.Ytaidaohkbbdimab.fnExactMax
