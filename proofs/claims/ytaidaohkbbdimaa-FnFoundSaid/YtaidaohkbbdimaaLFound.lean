/-
  FnFound: whatever the operations, the key and the value: what was inserted is found, and nothing else changed. No condition.
-/
import Derived.Test.YtaidaohkbbdimaaLA
namespace Go.Proofs.Ytaidaohkbbdimaa
open Go.RowKit

theorem found_look (ops : List Opr) (s : Bs) (v : Int) : look (rows (ops ++ [putO s v])) s = some v := by
  rw [rows_app]
  show look (step (rows ops) (putO s v)) s = _
  have h1 : step (rows ops) (putO s v) = put (rows ops) s v := by simp [step, putO]
  rw [h1, look_put (srt_rows ops), if_pos rfl]
theorem found_rows (ops : List Opr) (s : Bs) (v : Int) : rows ((ops ++ [putO s v]) ++ [delO s]) = rows (ops ++ [delO s]) := by
  rw [rows_app, rows_app, rows_app]
  show step (step (rows ops) (putO s v)) (delO s) = step (rows ops) (delO s)
  have h1 : step (rows ops) (putO s v) = put (rows ops) s v := by simp [step, putO]
  have h2 : ∀ l, step l (delO s) = drop1 l s := fun l => by simp [step, delO]
  rw [h1, h2, h2, drop1_put (srt_rows ops)]

set_option maxHeartbeats 4000000 in
set_option maxRecDepth 100000 in
theorem fnFound_any {w : World} {A : Option Addr} {c : Nat} {ops : List Opr} (s : Bs) (v : Int) (h : Rd w 3 A ops.length (flat opc ops)) :
    Calls Try.prog 8 #[.slice A ops.length c, .string (ba s), .int .i64 v] w (Ans w (.bool true)) := by
  have hZ := zzFits1_any (c := c) h
  have hS := ba_size s
  obtain ⟨S, hSS⟩ : ∃ S, S = ba s := ⟨_, rfl⟩
  rw [← hSS] at hS
  rw [← hSS]
  have HSS := Lib.hid hSS
  have HS := Lib.hid hS
  clear hSS hS
  have HR := Lib.hid h
  clear h
  cases h1 : fits1 ops with
  | false =>
    rw [h1] at hZ
    clear h1
    go_enter Try.func8, Try.ntmps8
    go_wp2_with fail
    refine hZ.mono ?_
    rintro e w1 ⟨rfl, hb1⟩
    go_wp2_with fail
    go_ret
    exact ⟨rfl, hb1⟩
  | true =>
    rw [h1] at hZ
    have hm := fits1_len h1
    clear h1
    by_cases h2 : S.size ≤ 2147483647
    · have hc2 : decide ((2147483647 : Int) < (S.size : Int)) = false := decide_eq_false (by omega)
      have hF := fun W (hW : Below w.heap.size w W) => fit_any (c := c) (HR.out.bel hW) hm
      cases h3 : fit ops with
      | false =>
        rw [h3] at hF
        have HF := Lib.hid hF
        clear h3 hm hF
        go_enter Try.func8, Try.ntmps8
        go_wp2_with fail
        refine hZ.mono ?_
        rintro e w1 ⟨rfl, hb1⟩
        go_wp2_with fail
        refine (HF.out w1 hb1).mono ?_
        rintro e w2 ⟨rfl, hb2⟩
        go_wp2_with fail
        go_ret
        exact ⟨rfl, hb1.trans (hb2.mono hb1.size)⟩
      | true =>
        rw [h3] at hF
        have HF := Lib.hid hF
        have H3 := Lib.hid (fit_oks h3)
        clear h3 hF
        by_cases h4 : S.size ≤ 200
        · have hc4 : decide ((200 : Int) < (S.size : Int)) = false := decide_eq_false (by omega)
          have H4 : Hid (s.length ≤ 200) := Lib.hid (by have := HS.out; omega)
          clear h2 h4
          go_enter Try.func8, Try.ntmps8
          go_wp2_with fail
          refine hZ.mono ?_
          rintro e w1 ⟨rfl, hb1⟩
          go_wp2_with fail
          refine (HF.out w1 hb1).mono ?_
          rintro e w2 ⟨rfl, hb2⟩
          have hb3 := hb1.trans (hb2.mono hb1.size)
          clear hb1 hb2 hZ HF
          go_wp2_with fail
          clear hc2 hc4 hm
          have hL3 := H3.out.1
          obtain ⟨M, hM⟩ : ∃ M, M = ops ++ [putO s v] := ⟨_, rfl⟩
          obtain ⟨N, hN⟩ : ∃ N, N = M ++ [delO s] := ⟨_, rfl⟩
          obtain ⟨K, hK⟩ : ∃ K, K = ops ++ [delO s] := ⟨_, rfl⟩
          have HM := Lib.hid hM
          have HN := Lib.hid hN
          have HK := Lib.hid hK
          have HO : Hid (Oks M) := Lib.hid (by rw [hM]; exact oks_app (oks_fit H3.out) (by simp) (by simp [putO]; have := H4.out; omega))
          have HON : Hid (Oks N) := Lib.hid (by rw [hN, hM, List.append_assoc]; exact oks_app (oks_fit H3.out) (by simp) (by simp [putO, delO]; have := H4.out; omega))
          have HOK : Hid (Oks K) := Lib.hid (by rw [hK]; exact oks_app (oks_fit H3.out) (by simp) (by simp [delO]; have := H4.out; omega))
          have HLK : Hid (look (rows M) s = some v) := Lib.hid (by rw [hM]; exact found_look ops s v)
          have HRW : Hid (first (rows N) 0 = first (rows K) 0) := Lib.hid (by rw [hN, hM, hK, found_rows])
          have HLM : Hid (M.length ≤ 301) := Lib.hid (by rw [hM]; simp; omega)
          clear hM hN hK
          refine (then_lit (b := [putO s v]) HM.out (HR.out.bel hb3) rfl (by rw [HSS.out]; rfl) (by have := H3.out.1; simp; omega) rfl).mono ?_
          rintro e w3 ⟨A1, c1, rfl, hR1, hb4⟩
          have HR1 := Lib.hid hR1
          have hb5 := hb3.trans (hb4.mono hb3.size)
          have hGet := iGet_any (c := c1) s hR1 HO.out
          rw [HLK.out, ← HSS.out] at hGet
          simp only [Option.getD_some, Option.isSome_some] at hGet
          have HGet := Lib.hid hGet
          clear hR1 hb4 hb3 hGet
          go_wp2_with fail
          refine HGet.out.mono ?_
          rintro e w4 ⟨rfl, hb6⟩
          have hb7 := hb5.trans (hb6.mono hb5.size)
          have HR2 := Lib.hid (HR1.out.bel hb6)
          clear hb6 hb5 HGet
          go_wp2_with fail
          refine (then_lit (b := [delO s]) HN.out HR2.out rfl (by rw [HSS.out]; rfl) (by have := HLM.out; simp; omega) rfl).mono ?_
          rintro e w5 ⟨A2, c2, rfl, hR3, hb8⟩
          have HR3 := Lib.hid hR3
          have hb9 := hb7.trans (hb8.mono hb7.size)
          clear hR3 hb8 hb7
          go_wp2_with fail
          refine (then_lit (b := [delO s]) HK.out (HR.out.bel hb9) rfl (by rw [HSS.out]; rfl) (by have := H3.out.1; simp; omega) rfl).mono ?_
          rintro e w6 ⟨A3, c3, rfl, hR4, hb10⟩
          have HR4 := Lib.hid hR4
          have HR5 := Lib.hid (HR3.out.bel (hb10.mono (Nat.le_refl _)))
          have hb11 := hb9.trans (hb10.mono hb9.size)
          clear hR4 hb10 hb9
          go_wp2_with fail
          refine (iWalk_any 0 HR5.out HON.out).mono ?_
          rintro e w7 ⟨A4, c4, rfl, hR6, hb12⟩
          rw [HRW.out] at hR6
          have HR6 := Lib.hid hR6
          have HR7 := Lib.hid (HR4.out.bel hb12)
          have hb13 := hb11.trans (hb12.mono hb11.size)
          clear hR6 hb12 hb11
          rw [HRW.out]
          go_wp2_with fail
          refine (iWalk_any 0 HR7.out HOK.out).mono ?_
          rintro e w8 ⟨A5, c5, rfl, hR8, hb14⟩
          have HR8 := Lib.hid hR8
          have HR9 := Lib.hid (HR6.out.bel hb14)
          have hb15 := hb13.trans (hb14.mono hb13.size)
          have HLL : Hid ((first (rows K) 0).length ≤ 100000) := Lib.hid (by rw [first_all]; have := len_rows K; have := HOK.out.len; omega)
          clear hR8 hb14 hb13
          go_wp2_with fail
          refine (sameRows_any HR9.out HR8.out HLL.out).mono ?_
          rintro e w9 ⟨rfl, hb16⟩
          have hb17 := hb15.trans (hb16.mono hb15.size)
          rw [decide_eq_true rfl]
          clear hb16 hb15
          go_wp2_with fail
          go_ret
          exact ⟨rfl, hb17⟩
        · have hc4 : decide ((200 : Int) < (S.size : Int)) = true := decide_eq_true (by omega)
          clear h2 h4 hm
          go_enter Try.func8, Try.ntmps8
          go_wp2_with fail
          refine hZ.mono ?_
          rintro e w1 ⟨rfl, hb1⟩
          go_wp2_with fail
          refine (HF.out w1 hb1).mono ?_
          rintro e w2 ⟨rfl, hb2⟩
          go_wp2_with fail
          go_ret
          exact ⟨rfl, hb1.trans (hb2.mono hb1.size)⟩
    · have hc2 : decide ((2147483647 : Int) < (S.size : Int)) = true := decide_eq_true (by omega)
      clear h2 hm
      go_enter Try.func8, Try.ntmps8
      go_wp2_with fail
      refine hZ.mono ?_
      rintro e w1 ⟨rfl, hb1⟩
      go_wp2_with fail
      go_ret
      exact ⟨rfl, hb1⟩

end Go.Proofs.Ytaidaohkbbdimaa

namespace Go.Proofs.Ytaidaohkbbdimaa.fnFound
open Go.ChangeShapes Go.WideShapes Go.ChangeAt Go.RowKit Go.ChangeMaps

set_option maxRecDepth 100000 in
theorem lifted (os : Os) (started : os.Started) (H : Type) (enc : TypeId × Value → H) :
    ReturnsInHanded {} Try.checked os 8 .any (Rows.fnFoundSpec.pre6 enc Try.prog Try.f8 Rows.fnFoundRow.domain false) (Rows.fnFoundSpec.post enc Try.prog Try.f8 false true false false) := by
  refine returnsInHanded_of_change (C := Try.checked) own started (by kernel_rfl) Try.func8
    (ChangeSpec.witness6 (enc := enc) (C := Try.checked) false ⟨#[], #[.slice none 0 0, .string ⟨#[]⟩, .int .i64 0], []⟩ 8 (by kernel_rfl) (by kernel_rfl) (by kernel_rfl) (by kernel_rfl)) ?_
  intro W base args ds gs before hval0 hW hcnd _
  have hval : ∀ (j : Nat) t v, Try.f8.params[j]? = some t → args[j]? = some v → Value.okWide Try.prog W .any base t v := hval0
  have hW' := hW
  obtain ⟨p, q, hA0, hV, rfl, hfz, hnd⟩ := hW
  obtain ⟨rfl, rfl⟩ := trodVars_none hV
  rw [List.append_nil] at hW'
  have hA : DataW.TrodAll enc Try.prog W 0 (fun _ => true) true Try.f8.params.toList args.toList ds p := hA0
  have hA1 := hA
  rw [Try.params8] at hA hval
  obtain ⟨v0, vs0, d0, ds0, p0, q0, hargs, rfl, rfl, h0, r0⟩ := trodAll_cons hA
  obtain ⟨v1, vs1, d1, ds1, p1, q1, rfl, rfl, rfl, h1, r1⟩ := trodAll_cons r0
  obtain ⟨v2, vs2, d2, ds2, p2, q2, rfl, rfl, rfl, h2, r2⟩ := trodAll_cons r1
  obtain ⟨rfl, rfl, rfl⟩ := trodAll_nil r2
  obtain rfl : args = #[v0, v1, v2] := by cases args; simp_all
  obtain ⟨A0, c0, ops0, rfl, hR0⟩ := open_ops (hval 0 31 v0 rfl rfl) h0
  obtain ⟨s1, rfl, _, _, _⟩ := open_string Try.underlying9 (hval 1 9 v1 rfl rfl) h1
  obtain ⟨i2, rfl, _, _, hwf2⟩ := open_int Try.underlying3 (hval 2 3 v2 rfl rfl) h2
  have hC := fnFound_any (c := c0) s1.data.toList i2 hR0
  rw [ba_bs] at hC
  exact hC.mono fun e W' ha => law_post hW' hA1 rfl rfl (by rw [Try.params8]; decide +kernel) (by kernel_rfl) rfl ha

theorem proved : Rows.FnFoundSaid :=
  OpenClaim.holds_of_wide 8 Try.f8 rfl rfl rfl rfl rfl rfl rfl ⟨rfl, rfl, rfl, rfl, rfl⟩ rfl rfl rfl rfl rfl (by kernel_rfl) Try.func8 (by kernel_rfl)
    (of_decide_eq_true (by kernel_rfl)) (by unfold Func.isWrapper; first | (rw [if_pos (by decide +kernel)]; kernel_rfl) | (rw [if_neg (by decide +kernel)]; exact ⟨rfl, rfl⟩))
    (fun os started H enc _ => lifted os started H enc)

end Go.Proofs.Ytaidaohkbbdimaa.fnFound
