/-
  FnExactGet: whatever the operations and the key: a key that is there has its value. No condition.
-/
import Derived.Test.YtaidaohkbbdimabLB
namespace Go.Proofs.Ytaidaohkbbdimab
open Go.RowKit

theorem get_last (l : List Rw) (s : Bs) (h : Srt l) : look l s = match (abv l s).getLast? with
    | some x => if x.1 = s then some x.2 else none
    | none => none := by
  cases e : (abv l s).getLast? with
  | none =>
    cases e2 : look l s with
    | none => rfl
    | some v => rw [abv_last h ((look_mem h).1 e2)] at e; cases e
  | some x =>
    by_cases hx : x.1 = s
    · dsimp only
      rw [if_pos hx]
      have h1 : x ∈ l := (mem_abv.1 (List.mem_of_getLast? e)).1
      rw [look_mem h, ← hx]
      exact h1
    · dsimp only
      rw [if_neg hx]
      cases e2 : look l s with
      | none => rfl
      | some v =>
        rw [abv_last h ((look_mem h).1 e2)] at e
        injection e with e
        exact absurd (by rw [← e]) hx

set_option maxHeartbeats 4000000 in
set_option maxRecDepth 100000 in
theorem fnExactGet_any {w : World} {A : Option Addr} {c : Nat} {ops : List Opr} (s : Bs) (h : Rd w 3 A ops.length (flat opc ops)) :
    Calls Try.prog 9 #[.slice A ops.length c, .string (ba s)] w (Ans w (.bool true)) := by
  have hZ := zzFits1_any (c := c) h
  have hS := ba_size s
  obtain ⟨S, hSS⟩ : ∃ S, S = ba s := ⟨_, rfl⟩
  rw [← hSS] at hS
  rw [← hSS]
  have HSS := Lib.hid hSS
  have HS := Lib.hid hS
  clear hSS hS
  have HR := Lib.hid h
  clear h
  cases h1 : fits1 ops with
  | false =>
    rw [h1] at hZ
    clear h1
    go_enter Try.func9, Try.ntmps9
    go_wp2_with fail
    refine hZ.mono ?_
    rintro e w1 ⟨rfl, hb1⟩
    go_wp2_with fail
    go_ret
    exact ⟨rfl, hb1⟩
  | true =>
    rw [h1] at hZ
    have hm := fits1_len h1
    clear h1
    by_cases h2 : S.size ≤ 2147483647
    · have hc2 : decide ((2147483647 : Int) < (S.size : Int)) = false := decide_eq_false (by omega)
      have hF := fun W (hW : Below w.heap.size w W) => fit_any (c := c) (HR.out.bel hW) hm
      cases h3 : fit ops with
      | false =>
        rw [h3] at hF
        have HF := Lib.hid hF
        clear h3 hm hF
        go_enter Try.func9, Try.ntmps9
        go_wp2_with fail
        refine hZ.mono ?_
        rintro e w1 ⟨rfl, hb1⟩
        go_wp2_with fail
        refine (HF.out w1 hb1).mono ?_
        rintro e w2 ⟨rfl, hb2⟩
        go_wp2_with fail
        go_ret
        exact ⟨rfl, hb1.trans (hb2.mono hb1.size)⟩
      | true =>
        rw [h3] at hF
        have HF := Lib.hid hF
        have H3 := Lib.hid (fit_oks h3)
        clear h3 hF
        by_cases h4 : S.size ≤ 200
        · have hc4 : decide ((200 : Int) < (S.size : Int)) = false := decide_eq_false (by omega)
          have H4 : Hid (s.length ≤ 200) := Lib.hid (by have := HS.out; omega)
          clear h2 h4
          go_enter Try.func9, Try.ntmps9
          go_wp2_with fail
          refine hZ.mono ?_
          rintro e w1 ⟨rfl, hb1⟩
          go_wp2_with fail
          refine (HF.out w1 hb1).mono ?_
          rintro e w2 ⟨rfl, hb2⟩
          have hb3 := hb1.trans (hb2.mono hb1.size)
          clear hb1 hb2 hZ HF
          go_wp2_with fail
          clear hc2 hc4 hm
          rw [HSS.out]
          have hget := get_last (rows ops) s (srt_rows ops)
          obtain ⟨T, hT⟩ : ∃ T, T = (abv (rows ops) s).getLast? := ⟨_, rfl⟩
          rw [← hT] at hget
          have HGET := Lib.hid hget
          have HT := Lib.hid hT
          clear hT hget
          refine (sRows_any (HR.out.bel hb3) (by have := H3.out.1; omega)).mono ?_
          rintro e w11 ⟨Ab, cb, rfl, hb, hc⟩
          have Hb := Lib.hid hb
          clear hb
          have hb11 := hb3.trans (hc.mono hb3.size)
          clear hc hb3
          go_wp2_with fail
          refine (sAbove_any s Hb.out (by have := H3.out.1; have := len_rows ops; omega)).mono ?_
          rintro e w12 ⟨Au, cu, rfl, hu, hc⟩
          have Hu := Lib.hid hu
          clear hu
          have hb12 := hb11.trans (hc.mono hb11.size)
          clear hc hb11
          clear Hb
          go_wp2_with fail
          refine (last_any Hu.out (by have := H3.out.1; have := len_rows ops; have := len_abv (rows ops) s; omega)).mono ?_
          rintro e w13 ⟨rfl, hc⟩
          unfold rwv
          rw [← HT.out]
          replace Hu := Lib.hid (Hu.out.bel hc)
          have hb13 := hb12.trans (hc.mono hb12.size)
          clear hc hb12
          go_wp2_with fail
          have hc := (Below.refl w13.heap.size w13).alloc (Nat.le_refl _) (.cells #[.string (ba (orow T).1), .int .i64 (orow T).2] 35)
          replace Hu := Lib.hid (Hu.out.bel hc)
          have hb14 := hb13.trans (hc.mono hb13.size)
          clear hc hb13
          have HBq := Lib.hid (Bk.new w13 35 #[.string (ba (orow T).1), .int .i64 (orow T).2])
          refine (iGet_any s (HR.out.bel hb14) (oks_of (oks_fit H3.out))).mono ?_
          rintro e w15 ⟨rfl, hc⟩
          rw [HGET.out]
          replace Hu := Lib.hid (Hu.out.bel hc)
          replace HBq := Lib.hid (HBq.out.of (hc.block _ HBq.out.lt))
          have hb15 := hb14.trans (hc.mono hb14.size)
          clear hc hb14
          have kq0 : w15.cell? ⟨w13.heap.size, 0, none⟩ = some (.string (ba (orow T).1)) := by rw [HBq.out.cell]; rfl
          have kq1 : w15.cell? ⟨w13.heap.size, 1, none⟩ = some (.int .i64 (orow T).2) := by rw [HBq.out.cell]; rfl
          have klq := HBq.out.lt
          clear HGET HT Hu HR HBq
          cases T with
          | none =>
            simp only [orow, Option.getD_none, Option.isSome_none] at *
            go_wp2_with fail
            go_ret
            exact ⟨rfl, hb15⟩
          | some x =>
            by_cases hx : x.1 = s
            · simp only [orow, Option.getD_some, Option.isSome_some, hx] at *
              clear hx
              go_wp2_with fail
              go_ret
              exact ⟨rfl, hb15⟩
            · have hne : ((ba x.1).toList == (ba s).toList) = false := beq_eq_false_iff_ne.2 fun e => hx (ba_inj e)
              simp only [orow, Option.getD_some, Option.isSome_some, if_neg hx, Option.getD_none, Option.isSome_none] at *
              generalize ba x.1 = z at *
              clear hx
              go_wp2_with fail
              go_ret
              exact ⟨rfl, hb15⟩
        · have hc4 : decide ((200 : Int) < (S.size : Int)) = true := decide_eq_true (by omega)
          clear h2 h4 hm
          go_enter Try.func9, Try.ntmps9
          go_wp2_with fail
          refine hZ.mono ?_
          rintro e w1 ⟨rfl, hb1⟩
          go_wp2_with fail
          refine (HF.out w1 hb1).mono ?_
          rintro e w2 ⟨rfl, hb2⟩
          go_wp2_with fail
          go_ret
          exact ⟨rfl, hb1.trans (hb2.mono hb1.size)⟩
    · have hc2 : decide ((2147483647 : Int) < (S.size : Int)) = true := decide_eq_true (by omega)
      clear h2 hm
      go_enter Try.func9, Try.ntmps9
      go_wp2_with fail
      refine hZ.mono ?_
      rintro e w1 ⟨rfl, hb1⟩
      go_wp2_with fail
      go_ret
      exact ⟨rfl, hb1⟩

end Go.Proofs.Ytaidaohkbbdimab

namespace Go.Proofs.Ytaidaohkbbdimab.fnExactGet
open Go.ChangeShapes Go.WideShapes Go.ChangeAt Go.RowKit Go.ChangeMaps

set_option maxRecDepth 100000 in
theorem lifted (os : Os) (started : os.Started) (H : Type) (enc : TypeId × Value → H) :
    ReturnsInHanded {} Try.checked os 9 .any (Rows.fnExactGetSpec.pre6 enc Try.prog Try.f9 Rows.fnExactGetRow.domain false) (Rows.fnExactGetSpec.post enc Try.prog Try.f9 false true false false) := by
  refine returnsInHanded_of_change (C := Try.checked) own started (by kernel_rfl) Try.func9
    (ChangeSpec.witness6 (enc := enc) (C := Try.checked) false ⟨#[], #[.slice none 0 0, .string ⟨#[]⟩], []⟩ 8 (by kernel_rfl) (by kernel_rfl) (by kernel_rfl) (by kernel_rfl)) ?_
  intro W base args ds gs before hval0 hW hcnd _
  have hval : ∀ (j : Nat) t v, Try.f9.params[j]? = some t → args[j]? = some v → Value.okWide Try.prog W .any base t v := hval0
  have hW' := hW
  obtain ⟨p, q, hA0, hV, rfl, hfz, hnd⟩ := hW
  obtain ⟨rfl, rfl⟩ := trodVars_none hV
  rw [List.append_nil] at hW'
  have hA : DataW.TrodAll enc Try.prog W 0 (fun _ => true) true Try.f9.params.toList args.toList ds p := hA0
  have hA1 := hA
  rw [Try.params9] at hA hval
  obtain ⟨v0, vs0, d0, ds0, p0, q0, hargs, rfl, rfl, h0, r0⟩ := trodAll_cons hA
  obtain ⟨v1, vs1, d1, ds1, p1, q1, rfl, rfl, rfl, h1, r1⟩ := trodAll_cons r0
  obtain ⟨rfl, rfl, rfl⟩ := trodAll_nil r1
  obtain rfl : args = #[v0, v1] := by cases args; simp_all
  obtain ⟨A0, c0, ops0, rfl, hR0⟩ := open_ops (hval 0 22 v0 rfl rfl) h0
  obtain ⟨s1, rfl, _, _, _⟩ := open_string Try.underlying9 (hval 1 9 v1 rfl rfl) h1
  have hC := fnExactGet_any (c := c0) s1.data.toList hR0
  rw [ba_bs] at hC
  exact hC.mono fun e W' ha => law_post hW' hA1 rfl rfl (by rw [Try.params9]; decide +kernel) (by kernel_rfl) rfl ha

theorem proved : Rows.FnExactGetSaid :=
  OpenClaim.holds_of_wide 9 Try.f9 rfl rfl rfl rfl rfl rfl rfl ⟨rfl, rfl, rfl, rfl, rfl⟩ rfl rfl rfl rfl rfl (by kernel_rfl) Try.func9 (by kernel_rfl)
    (of_decide_eq_true (by kernel_rfl)) (by unfold Func.isWrapper; first | (rw [if_pos (by decide +kernel)]; kernel_rfl) | (rw [if_neg (by decide +kernel)]; exact ⟨rfl, rfl⟩))
    (fun os started H enc _ => lifted os started H enc)

end Go.Proofs.Ytaidaohkbbdimab.fnExactGet
