/-
  FnChain: whatever the operations and the text: the longest prefix is the last entry above the text, and each entry above is a key of its own. No condition.
-/
import Derived.Test.YtaidaohkbbdimaaLB
import Derived.Deep.RegionHeld3
namespace Go.Proofs.Ytaidaohkbbdimaa
open Go.RowKit

theorem chain_in {l : List Rw} (h : Srt l) (s : Bs) : ∀ x ∈ abv l s, look l x.1 = some x.2 ∧ x.1.isPrefixOf s = true := fun _ hx =>
  ⟨(look_mem h).2 (mem_abv.1 hx).1, (mem_abv.1 hx).2⟩

set_option linter.unusedSimpArgs false in
set_option maxHeartbeats 4000000 in
set_option maxRecDepth 100000 in
theorem fnChain_any {w : World} {A : Option Addr} {c : Nat} {ops : List Opr} (s : Bs) (h : Rd w 3 A ops.length (flat opc ops)) :
    Calls Try.prog 13 #[.slice A ops.length c, .string (ba s)] w (Ans w (.bool true)) := by
  have hZ := zzFits1_any (c := c) h
  have hS := ba_size s
  obtain ⟨S, hSS⟩ : ∃ S, S = ba s := ⟨_, rfl⟩
  rw [← hSS] at hS
  rw [← hSS]
  have HSS := Lib.hid hSS
  have HS := Lib.hid hS
  clear hSS hS
  have HR := Lib.hid h
  clear h
  cases h1 : fits1 ops with
  | false =>
    rw [h1] at hZ
    clear h1
    go_enter Try.func13, Try.ntmps13
    go_wp2_with fail
    refine hZ.mono ?_
    rintro e w1 ⟨rfl, hb1⟩
    go_wp2_with fail
    go_ret
    exact ⟨rfl, hb1⟩
  | true =>
    rw [h1] at hZ
    have hm := fits1_len h1
    clear h1
    by_cases h2 : S.size ≤ 2147483647
    · have hc2 : decide ((2147483647 : Int) < (S.size : Int)) = false := decide_eq_false (by omega)
      have hF := fun W (hW : Below w.heap.size w W) => fit_any (c := c) (HR.out.bel hW) hm
      cases h3 : fit ops with
      | false =>
        rw [h3] at hF
        have HF := Lib.hid hF
        clear h3 hm hF
        go_enter Try.func13, Try.ntmps13
        go_wp2_with fail
        refine hZ.mono ?_
        rintro e w1 ⟨rfl, hb1⟩
        go_wp2_with fail
        refine (HF.out w1 hb1).mono ?_
        rintro e w2 ⟨rfl, hb2⟩
        go_wp2_with fail
        go_ret
        exact ⟨rfl, hb1.trans (hb2.mono hb1.size)⟩
      | true =>
        rw [h3] at hF
        have HF := Lib.hid hF
        have H3 := Lib.hid (fit_oks h3)
        clear h3 hF
        by_cases h4 : S.size ≤ 200
        · have hc4 : decide ((200 : Int) < (S.size : Int)) = false := decide_eq_false (by omega)
          have H4 : Hid (s.length ≤ 200) := Lib.hid (by have := HS.out; omega)
          clear h2 h4
          go_enter Try.func13, Try.ntmps13
          go_wp2_with fail
          refine hZ.mono ?_
          rintro e w1 ⟨rfl, hb1⟩
          go_wp2_with fail
          refine (HF.out w1 hb1).mono ?_
          rintro e w2 ⟨rfl, hb2⟩
          have hb3 := hb1.trans (hb2.mono hb1.size)
          clear hb1 hb2 hZ HF
          go_wp2_with fail
          clear hc2 hc4 hm
          obtain ⟨B, hB⟩ : ∃ B, B = abv (rows ops) s := ⟨_, rfl⟩
          have HIN : Hid (∀ x ∈ B, look (rows ops) x.1 = some x.2 ∧ x.1.isPrefixOf s = true) := Lib.hid (by rw [hB]; exact chain_in (srt_rows ops) s)
          have HLR : Hid ((rows ops).length ≤ 1000) := Lib.hid (by have := H3.out.1; have := len_rows ops; omega)
          have HLB : Hid (B.length ≤ 1000) := Lib.hid (by rw [hB]; have := len_abv (rows ops) s; have := HLR.out; omega)
          have HAB := Lib.hid hB
          clear hB
          rw [HSS.out]
          refine (iAbove0_any s (HR.out.bel hb3) (oks_of (oks_fit H3.out))).mono ?_
          rintro e w11 ⟨Aa, ca, rfl, ha, hc⟩
          rw [← HAB.out] at ha ⊢
          have Ha := Lib.hid ha
          clear ha
          have hb11 := hb3.trans (hc.mono hb3.size)
          clear hc hb3
          go_wp2_with fail
          refine (iLongest_any s (HR.out.bel hb11) (oks_of (oks_fit H3.out))).mono ?_
          rintro e w12 ⟨rfl, hc⟩
          rw [← HAB.out]
          unfold rwv
          generalize hT : B.getLast? = T at *
          have HT := Lib.hid hT
          clear hT
          replace Ha := Lib.hid (Ha.out.bel hc)
          have hb12 := hb11.trans (hc.mono hb11.size)
          clear hc hb11
          go_wp2_with fail
          obtain ⟨W, hW⟩ : ∃ W, W = w12.alloc (.cells #[.string (ba (orow T).1), .int .i64 (orow T).2] 28) := ⟨_, rfl⟩
          rw [← hW]
          have hbW : Below w12.heap.size w12 W := by rw [hW]; exact (Below.refl _ _).alloc (Nat.le_refl _) _
          have hbB := hb12.trans (hbW.mono hb12.size)
          have hkq : Bk W w12.heap.size 28 #[.string (ba (orow T).1), .int .i64 (orow T).2] := by rw [hW]; exact Bk.new _ _ _
          replace Ha := Lib.hid (Ha.out.bel hbW)
          obtain ⟨q, hq⟩ : ∃ q, q = w12.heap.size := ⟨_, rfl⟩
          rw [← hq] at hkq ⊢
          have HKQ := Lib.hid hkq
          have HBB := Lib.hid hbB
          clear hW hbW hbB hkq hq hb12
          obtain ⟨L, hL⟩ : ∃ L, L = B.length := ⟨_, rfl⟩
          have hlen : L ≤ 1000 := by have := HLB.out; omega
          rw [← hL] at Ha
          rw [← hL]
          have HL := Lib.hid hL
          clear hL
          cases T with
          | none =>
            have hL0 : L = 0 := by
              have h := HT.out
              rw [List.getLast?_eq_none_iff] at h
              rw [HL.out, h]; rfl
            have HS0 : Hid (Below W.heap.size W W.drew) := Lib.hid (Below.refl _ _).drew
            simp only [orow, Option.getD_none, Option.isSome_none] at *
            subst hL0
            clear HT HKQ hlen
            refine wp_region_any (by kernel_rfl) ?_
            change wpAny _ _ _ _ _ _ _ (World.drew _)
            refine wpAny_take (i := 0) (oi := Oper.mk _ _ _ _ _ _) (v := ?_) rfl (by kernel_rfl) (by kernel_rfl) (by kernel_rfl) (fun _ _ _ h => h) (Or.inl ⟨by rfl, ?_⟩) ?_
            rotate_left
            · intro w
              first | (go_simp; done) | (go_simp; with_reducible rfl) | with_reducible rfl
            simp only [Act.put, List.setIfInBounds_toArray, List.set_cons_zero, List.set_cons_succ]
            refine wpAny_take (i := 1) (oi := Oper.mk _ _ _ _ _ _) (v := ?_) rfl (by kernel_rfl) (by kernel_rfl) (by kernel_rfl) (fun _ _ _ h => h) (Or.inl ⟨by rfl, ?_⟩) ?_
            rotate_left
            · intro w
              first | (go_simp; done) | (go_simp; with_reducible rfl) | with_reducible rfl
            simp only [Act.put, List.setIfInBounds_toArray, List.set_cons_zero, List.set_cons_succ]
            refine wpAny_take (i := 2) (oi := Oper.mk _ _ _ _ _ _) (v := ?_) rfl (by kernel_rfl) (by kernel_rfl) (by kernel_rfl) (fun _ _ _ h => h) (Or.inl ⟨by rfl, ?_⟩) ?_
            rotate_left
            · intro w
              first | (go_simp; done) | (go_simp; with_reducible rfl) | with_reducible rfl
            simp only [Act.put, List.setIfInBounds_toArray, List.set_cons_zero, List.set_cons_succ]
            refine wpAny_take (i := 3) (oi := Oper.mk _ _ _ _ _ _) (v := ?_) rfl (by kernel_rfl) (by kernel_rfl) (by kernel_rfl) (fun _ _ _ h => h) (Or.inl ⟨by rfl, ?_⟩) ?_
            rotate_left
            · intro w
              first | (go_simp; done) | (go_simp; with_reducible rfl) | with_reducible rfl
            simp only [Act.put, List.setIfInBounds_toArray, List.set_cons_zero, List.set_cons_succ]
            refine wpAny_take (i := 4) (oi := Oper.mk _ _ _ _ _ _) (v := ?_) rfl (by kernel_rfl) (by kernel_rfl) (by kernel_rfl) (fun _ _ _ h => h) (Or.inl ⟨by rfl, ?_⟩) ?_
            rotate_left
            · intro w
              first | (go_simp; done) | (go_simp; with_reducible rfl) | with_reducible rfl
            simp only [Act.put, List.setIfInBounds_toArray, List.set_cons_zero, List.set_cons_succ]
            refine wpAny_take (i := 5) (oi := Oper.mk _ _ _ _ _ _) (v := ?_) rfl (by kernel_rfl) (by kernel_rfl) (by kernel_rfl) (fun _ _ _ h => h) (Or.inl ⟨by rfl, ?_⟩) ?_
            rotate_left
            · intro w
              first | (go_simp; done) | (go_simp; with_reducible rfl) | with_reducible rfl
            simp only [Act.put, List.setIfInBounds_toArray, List.set_cons_zero, List.set_cons_succ]
            refine wpAny_take (i := 6) (oi := Oper.mk _ _ _ _ _ _) (v := ?_) rfl (by kernel_rfl) (by kernel_rfl) (by kernel_rfl) (fun _ _ _ h => h) (Or.inl ⟨by rfl, ?_⟩) ?_
            rotate_left
            · intro w
              first | (go_simp; done) | (go_simp; with_reducible rfl) | with_reducible rfl
            simp only [Act.put, List.setIfInBounds_toArray, List.set_cons_zero, List.set_cons_succ]
            refine wpAny_take (i := 7) (oi := Oper.mk _ _ _ _ _ _) (v := ?_) rfl (by kernel_rfl) (by kernel_rfl) (by kernel_rfl) (fun _ _ _ h => h) (Or.inl ⟨by rfl, ?_⟩) ?_
            rotate_left
            · intro w
              first | (go_simp; done) | (go_simp; with_reducible rfl) | with_reducible rfl
            simp only [Act.put, List.setIfInBounds_toArray, List.set_cons_zero, List.set_cons_succ]
            refine wpAny_take (i := 8) (oi := Oper.mk _ _ _ _ _ _) (v := undef) rfl (by kernel_rfl) (by kernel_rfl) (by kernel_rfl) (fun _ _ _ h => h) (Or.inr ⟨by rfl, rfl⟩) ?_
            simp only [Act.put, List.setIfInBounds_toArray, List.set_cons_zero, List.set_cons_succ]
            refine wpAny_take (i := 9) (oi := Oper.mk _ _ _ _ _ _) (v := undef) rfl (by kernel_rfl) (by kernel_rfl) (by kernel_rfl) (fun _ _ _ h => h) (Or.inr ⟨by rfl, rfl⟩) ?_
            simp only [Act.put, List.setIfInBounds_toArray, List.set_cons_zero, List.set_cons_succ]
            refine wpAny_take (i := 10) (oi := Oper.mk _ _ _ _ _ _) (v := undef) rfl (by kernel_rfl) (by kernel_rfl) (by kernel_rfl) (fun _ _ _ h => h) (Or.inr ⟨by rfl, rfl⟩) ?_
            simp only [Act.put, List.setIfInBounds_toArray, List.set_cons_zero, List.set_cons_succ]
            refine wpAny_take (i := 11) (oi := Oper.mk _ _ _ _ _ _) (v := undef) rfl (by kernel_rfl) (by kernel_rfl) (by kernel_rfl) (fun _ _ _ h => h) (Or.inr ⟨by rfl, rfl⟩) ?_
            simp only [Act.put, List.setIfInBounds_toArray, List.set_cons_zero, List.set_cons_succ]
            refine wpAny_take (i := 12) (oi := Oper.mk _ _ _ _ _ _) (v := undef) rfl (by kernel_rfl) (by kernel_rfl) (by kernel_rfl) (fun _ _ _ h => h) (Or.inr ⟨by rfl, rfl⟩) ?_
            simp only [Act.put, List.setIfInBounds_toArray, List.set_cons_zero, List.set_cons_succ]
            refine wpAny_take (i := 13) (oi := Oper.mk _ _ _ _ _ _) (v := undef) rfl (by kernel_rfl) (by kernel_rfl) (by kernel_rfl) (fun _ _ _ h => h) (Or.inr ⟨by rfl, rfl⟩) ?_
            simp only [Act.put, List.setIfInBounds_toArray, List.set_cons_zero, List.set_cons_succ]
            refine wpAny_take (i := 14) (oi := Oper.mk _ _ _ _ _ _) (v := undef) rfl (by kernel_rfl) (by kernel_rfl) (by kernel_rfl) (fun _ _ _ h => h) (Or.inr ⟨by rfl, rfl⟩) ?_
            simp only [Act.put, List.setIfInBounds_toArray, List.set_cons_zero, List.set_cons_succ]
            refine wpAny_take (i := 15) (oi := Oper.mk _ _ _ _ _ _) (v := undef) rfl (by kernel_rfl) (by kernel_rfl) (by kernel_rfl) (fun _ _ _ h => h) (Or.inr ⟨by rfl, rfl⟩) ?_
            simp only [Act.put, List.setIfInBounds_toArray, List.set_cons_zero, List.set_cons_succ]
            refine wpAny_take (i := 16) (oi := Oper.mk _ _ _ _ _ _) (v := ?_) rfl (by kernel_rfl) (by kernel_rfl) (by kernel_rfl) (fun _ _ _ h => h) (Or.inl ⟨by rfl, ?_⟩) ?_
            rotate_left
            · intro w
              first | (go_simp; done) | (go_simp; with_reducible rfl) | with_reducible rfl
            simp only [Act.put, List.setIfInBounds_toArray, List.set_cons_zero, List.set_cons_succ]
            refine wpAny_take (i := 17) (oi := Oper.mk _ _ _ _ _ _) (v := ?_) rfl (by kernel_rfl) (by kernel_rfl) (by kernel_rfl) (fun _ _ _ h => h) (Or.inl ⟨by rfl, ?_⟩) ?_
            rotate_left
            · intro w
              first | (go_simp; done) | (go_simp; with_reducible rfl) | with_reducible rfl
            simp only [Act.put, List.setIfInBounds_toArray, List.set_cons_zero, List.set_cons_succ]
            refine wpAny_take (i := 18) (oi := Oper.mk _ _ _ _ _ _) (v := ?_) rfl (by kernel_rfl) (by kernel_rfl) (by kernel_rfl) (fun _ _ _ h => h) (Or.inl ⟨by rfl, ?_⟩) ?_
            rotate_left
            · intro w
              first | (go_simp; done) | (go_simp; with_reducible rfl) | with_reducible rfl
            simp only [Act.put, List.setIfInBounds_toArray, List.set_cons_zero, List.set_cons_succ]
            refine wpAny_take (i := 19) (oi := Oper.mk _ _ _ _ _ _) (v := ?_) rfl (by kernel_rfl) (by kernel_rfl) (by kernel_rfl) (fun _ _ _ h => h) (Or.inl ⟨by rfl, ?_⟩) ?_
            rotate_left
            · intro w
              first | (go_simp; done) | (go_simp; with_reducible rfl) | with_reducible rfl
            simp only [Act.put, List.setIfInBounds_toArray, List.set_cons_zero, List.set_cons_succ]
            refine wpAny_take (i := 20) (oi := Oper.mk _ _ _ _ _ _) (v := ?_) rfl (by kernel_rfl) (by kernel_rfl) (by kernel_rfl) (fun _ _ _ h => h) (Or.inl ⟨by rfl, ?_⟩) ?_
            rotate_left
            · intro w
              first | (go_simp; done) | (go_simp; with_reducible rfl) | with_reducible rfl
            simp only [Act.put, List.setIfInBounds_toArray, List.set_cons_zero, List.set_cons_succ]
            refine wpAny_take (i := 21) (oi := Oper.mk _ _ _ _ _ _) (v := ?_) rfl (by kernel_rfl) (by kernel_rfl) (by kernel_rfl) (fun _ _ _ h => h) (Or.inl ⟨by rfl, ?_⟩) ?_
            rotate_left
            · intro w
              first | (go_simp; done) | (go_simp; with_reducible rfl) | with_reducible rfl
            simp only [Act.put, List.setIfInBounds_toArray, List.set_cons_zero, List.set_cons_succ]
            refine wpAny_take (i := 23) (oi := Oper.mk _ _ _ _ _ _) (v := ?_) rfl (by kernel_rfl) (by kernel_rfl) (by kernel_rfl) (fun _ _ _ h => h) (Or.inl ⟨by rfl, ?_⟩) ?_
            rotate_left
            · intro w
              first | (go_simp; done) | (go_simp; with_reducible rfl) | with_reducible rfl
            simp only [Act.put, List.setIfInBounds_toArray, List.set_cons_zero, List.set_cons_succ]
            refine wpAny_ready (rs := [22]) (by kernel_rfl) (by simp) ?_
            refine AllReady.cons rfl (fun K hK => ?_) AllReady.nil
            go_simp
            go_at_call 30
            refine (sRows_any (HR.out.bel (HBB.out.trans (HS0.out.mono HBB.out.size))) (by have := H3.out.1; omega)).mono ?_
            rintro e wR ⟨Ab, cb, rfl, hr, hcR⟩
            have HBR : Hid (Below W.heap.size W wR) := Lib.hid (HS0.out.trans hcR)
            have HRr := Lib.hid hr
            clear hr hcR
            dsimp only
            refine hK _ _ ?_
            clear hK K
            refine wpAny_ready (rs := [24]) (by kernel_rfl) (by simp) ?_
            refine AllReady.cons rfl (fun K hK => ?_) AllReady.nil
            go_simp
            go_at_call 37
            refine (sAbove_any s HRr.out HLR.out).mono ?_
            rintro e wV ⟨Av, cv, rfl, hv, hcV⟩
            have HX : Hid (Below W.heap.size W wV) := Lib.hid (HBR.out.trans (hcV.mono HBR.out.size))
            rw [← HAB.out, ← HL.out]
            clear hv hcV
            dsimp only
            refine hK _ _ ?_
            clear hK K
            refine wpAny_take (i := 25) (oi := Oper.mk _ _ _ _ _ _) (v := ?_) rfl (by kernel_rfl) (by kernel_rfl) (by kernel_rfl) (fun _ _ _ h => h) (Or.inl ⟨by rfl, ?_⟩) ?_
            rotate_left
            · intro w
              first | (go_simp; done) | (go_simp; with_reducible rfl) | with_reducible rfl
            simp only [Act.put, List.setIfInBounds_toArray, List.set_cons_zero, List.set_cons_succ]
            refine wpAny_take (i := 26) (oi := Oper.mk _ _ _ _ _ _) (v := ?_) rfl (by kernel_rfl) (by kernel_rfl) (by kernel_rfl) (fun _ _ _ h => h) (Or.inl ⟨by rfl, ?_⟩) ?_
            rotate_left
            · intro w
              first | (go_simp; done) | (go_simp; with_reducible rfl) | with_reducible rfl
            simp only [Act.put, List.setIfInBounds_toArray, List.set_cons_zero, List.set_cons_succ]
            refine wpAny_take (i := 27) (oi := Oper.mk _ _ _ _ _ _) (v := ?_) rfl (by kernel_rfl) (by kernel_rfl) (by kernel_rfl) (fun _ _ _ h => h) (Or.inl ⟨by rfl, ?_⟩) ?_
            rotate_left
            · intro w
              first | (go_simp; done) | (go_simp; with_reducible rfl) | with_reducible rfl
            simp only [Act.put, List.setIfInBounds_toArray, List.set_cons_zero, List.set_cons_succ]
            refine wpAny_done (by kernel_rfl) ?_ _
            go_wp2_with fail
            refine wp_loop_rounds 1 ?_
            rw [rounds_succ]
            go_wp2_with fail
            go_ret
            exact ⟨rfl, HBB.out.trans (HX.out.mono HBB.out.size)⟩
          | some y =>
            have hne : B ≠ [] := by
              intro h
              have h2 := HT.out
              rw [h] at h2; cases h2
            have hL0 : 0 < L := by rw [HL.out]; exact List.length_pos_iff.2 hne
            have hlast : B[B.length - 1]? = some y := by rw [← List.getLast?_eq_getElem?]; exact HT.out
            have hi1 : B.length - 1 < B.length := by have := HL.out; omega
            rw [List.getElem?_eq_getElem hi1] at hlast
            injection hlast with hlast
            have hRA := Ha.out
            rw [HL.out] at hRA
            obtain ⟨ad, hA, hadl, c0, c1⟩ := hRA.rw_ hi1
            subst hA
            rw [hlast, ← HL.out] at c0 c1
            simp only [orow, Option.getD_some, Option.isSome_some] at *
            have q0 : W.cell? ⟨q, 0, none⟩ = some (.string (ba y.1)) := by rw [HKQ.out.cell]; rfl
            have q1 : W.cell? ⟨q, 1, none⟩ = some (.int .i64 y.2) := by rw [HKQ.out.cell]; rfl
            have hql := HKQ.out.lt
            have HS : Hid (∀ w', Below W.heap.size W w' → (w'.cell? ⟨q, 0, none⟩ = some (.string (ba y.1)) ∧ w'.cell? ⟨q, 1, none⟩ = some (.int .i64 y.2) ∧ w'.cell? (ad.add ((L - 1) * 2)) = some (.string (ba y.1)) ∧ w'.cell? ⟨(ad.add ((L - 1) * 2)).block, (ad.add ((L - 1) * 2)).off + 1, none⟩ = some (.int .i64 y.2)) ∧ Hid (Below W.heap.size W w')) :=
              Lib.hid (fun w' h => ⟨⟨(h.cell (p := ⟨q, 0, none⟩) hql).trans q0, (h.cell (p := ⟨q, 1, none⟩) hql).trans q1, (h.cell (by rw [add_block]; exact hadl)).trans c0, (h.cell (p := ⟨(ad.add ((L - 1) * 2)).block, (ad.add ((L - 1) * 2)).off + 1, none⟩) (by show (ad.add ((L - 1) * 2)).block < _; rw [add_block]; exact hadl)).trans c1⟩, Lib.hid h⟩)
            have HS0 : Hid (Below W.heap.size W W.drew) := Lib.hid (Below.refl _ _).drew
            have hg0 : decide ((0 : Int) < (L : Int)) = true := decide_eq_true (by omega)
            have hw0 : IntKind.i64.wrap ((L : Int) - 1) = ((L - 1 : Nat) : Int) := by rw [IntWalk.i64_in _ (by omega)]; omega
            have hix0 : (0 : Int) ≤ ((L - 1 : Nat) : Int) := by omega
            have hix1 : ((L - 1 : Nat) : Int) < (L : Int) := by omega
            clear HT HKQ hlast hi1 hRA hne q0 q1 c0 c1
            first
              | (go_region_held3 (fun w' => (w'.cell? ⟨q, 0, none⟩ = some (.string (ba y.1)) ∧ w'.cell? ⟨q, 1, none⟩ = some (.int .i64 y.2) ∧ w'.cell? (ad.add ((L - 1) * 2)) = some (.string (ba y.1)) ∧ w'.cell? ⟨(ad.add ((L - 1) * 2)).block, (ad.add ((L - 1) * 2)).off + 1, none⟩ = some (.int .i64 y.2)) ∧ Hid (Below W.heap.size W w')) (exact HS.out _ (Hid.out (by assumption)))
                (first
                | (go_at_call 30; go_split_ands; refine (sRows_any (HR.out.bel (HBB.out.trans ((Hid.out (p := Below W.heap.size W _) (by assumption)).mono HBB.out.size))) (by have := H3.out.1; omega)).mono ?_
                   rintro e wR ⟨Ab, cb, rfl, hr, hcR⟩
                   have HBR : Hid (Below W.heap.size W wR) := Lib.hid ((Hid.out (p := Below W.heap.size W _) (by assumption)).trans (hcR.mono (Hid.out (p := Below W.heap.size W _) (by assumption)).size))
                   have HRr := Lib.hid hr
                   clear hr hcR)
                | (go_at_call 37; refine (sAbove_any s HRr.out HLR.out).mono ?_
                   rintro e wV ⟨Av, cv, rfl, hv, hcV⟩
                   have HX : Hid (Below W.heap.size W wV) := Lib.hid (HBR.out.trans (hcV.mono HBR.out.size))
                   rw [← HAB.out, ← HL.out]
                   clear hv hcV)))
              | fail "region"
            go_wp2_with fail
            go_loopg [67] L (fun g v67 wr => ∃ (j : Nat), v67 = .int .i64 (j : Int) ∧ j ≤ L ∧ L - j ≤ g ∧ Below W.heap.size W wr)
            case atStart => exact ⟨0, rfl, Nat.zero_le _, by omega, HX.out⟩
            case round =>
              obtain ⟨j, rfl, hjL, hg, hb⟩ := hrel
              by_cases hj : j < L
              · have hj0 : j < B.length := by have := HL.out; omega
                have hlt : decide ((j : Int) < (L : Int)) = true := decide_eq_true (by omega)
                have hRA := Ha.out.bel hb
                rw [HL.out] at hRA
                obtain ⟨ad, hA, hadl, c0, c1⟩ := hRA.rw_ hj0
                first | subst hA | (injection hA with hA; subst hA)
                clear hRA
                have HY := Lib.hid (HIN.out _ (List.getElem_mem hj0))
                have hw1 : IntKind.i64.wrap ((j : Int) + 1) = (j : Int) + 1 := IntWalk.i64_in _ (by omega)
                have hi0 : (0 : Int) ≤ (j : Int) := by omega
                have hi1 : (j : Int) < (L : Int) := by omega
                generalize B[j] = y at *
                have hb1 : Below W.heap.size W (wr.alloc (.cells #[.string (ba y.1), .int .i64 y.2] 28)) := hb.alloc hb.size _
                have HB1 := Lib.hid hb1
                have HK1 := Lib.hid (Bk.new wr 28 #[.string (ba y.1), .int .i64 y.2])
                clear hb1
                have hGet := iGet_any (c := c) y.1 (HR.out.bel (HBB.out.trans (HB1.out.mono HBB.out.size))) (oks_of (oks_fit H3.out))
                rw [HY.out.1] at hGet
                simp only [Option.getD_some, Option.isSome_some] at hGet
                have HGet := Lib.hid hGet
                clear hGet
                go_wp2_with fail
                refine HGet.out.mono ?_
                rintro e w2 ⟨rfl, hc⟩
                have HK2 := Lib.hid (HK1.out.of (hc.block _ HK1.out.lt))
                have hlt2 := HK2.out.lt
                have k0 : w2.cell? ⟨wr.heap.size, 0, none⟩ = some (.string (ba y.1)) := by rw [HK2.out.cell]; rfl
                have k1 : w2.cell? ⟨wr.heap.size, 1, none⟩ = some (.int .i64 y.2) := by rw [HK2.out.cell]; rfl
                have hb2 := HB1.out.trans (hc.mono HB1.out.size)
                have hP := hasPrefix_any (ba s) (ba y.1) w2
                rw [ba_list, ba_list, HY.out.2] at hP
                have HP := Lib.hid hP
                clear hP hc HGet
                go_wp2_with fail
                refine HP.out.mono ?_
                rintro e w3 ⟨rfl, hw⟩
                subst w3
                go_wp2_with fail
                go_roundg (L - (j + 1))
                case measure => omega
                case rel => exact ⟨j + 1, by go_num, by omega, Nat.le_refl _, hb2⟩
              · have hlt : decide ((j : Int) < (L : Int)) = false := decide_eq_false (by omega)
                go_wp2_with fail
                go_ret
                exact ⟨rfl, HBB.out.trans (hb.mono HBB.out.size)⟩
        · have hc4 : decide ((200 : Int) < (S.size : Int)) = true := decide_eq_true (by omega)
          clear h2 h4 hm
          go_enter Try.func13, Try.ntmps13
          go_wp2_with fail
          refine hZ.mono ?_
          rintro e w1 ⟨rfl, hb1⟩
          go_wp2_with fail
          refine (HF.out w1 hb1).mono ?_
          rintro e w2 ⟨rfl, hb2⟩
          go_wp2_with fail
          go_ret
          exact ⟨rfl, hb1.trans (hb2.mono hb1.size)⟩
    · have hc2 : decide ((2147483647 : Int) < (S.size : Int)) = true := decide_eq_true (by omega)
      clear h2 hm
      go_enter Try.func13, Try.ntmps13
      go_wp2_with fail
      refine hZ.mono ?_
      rintro e w1 ⟨rfl, hb1⟩
      go_wp2_with fail
      go_ret
      exact ⟨rfl, hb1⟩

end Go.Proofs.Ytaidaohkbbdimaa

namespace Go.Proofs.Ytaidaohkbbdimaa.fnChain
open Go.ChangeShapes Go.WideShapes Go.ChangeAt Go.RowKit Go.ChangeMaps

set_option maxRecDepth 100000 in
theorem lifted (os : Os) (started : os.Started) (H : Type) (enc : TypeId × Value → H) :
    ReturnsInHanded {} Try.checked os 13 .any (Rows.fnChainSpec.pre6 enc Try.prog Try.f13 Rows.fnChainRow.domain false) (Rows.fnChainSpec.post enc Try.prog Try.f13 false true false false) := by
  refine returnsInHanded_of_change (C := Try.checked) own started (by kernel_rfl) Try.func13
    (ChangeSpec.witness6 (enc := enc) (C := Try.checked) false ⟨#[], #[.slice none 0 0, .string ⟨#[]⟩], []⟩ 8 (by kernel_rfl) (by kernel_rfl) (by kernel_rfl) (by kernel_rfl)) ?_
  intro W base args ds gs before hval0 hW hcnd _
  have hval : ∀ (j : Nat) t v, Try.f13.params[j]? = some t → args[j]? = some v → Value.okWide Try.prog W .any base t v := hval0
  have hW' := hW
  obtain ⟨p, q, hA0, hV, rfl, hfz, hnd⟩ := hW
  obtain ⟨rfl, rfl⟩ := trodVars_none hV
  rw [List.append_nil] at hW'
  have hA : DataW.TrodAll enc Try.prog W 0 (fun _ => true) true Try.f13.params.toList args.toList ds p := hA0
  have hA1 := hA
  rw [Try.params13] at hA hval
  obtain ⟨v0, vs0, d0, ds0, p0, q0, hargs, rfl, rfl, h0, r0⟩ := trodAll_cons hA
  obtain ⟨v1, vs1, d1, ds1, p1, q1, rfl, rfl, rfl, h1, r1⟩ := trodAll_cons r0
  obtain ⟨rfl, rfl, rfl⟩ := trodAll_nil r1
  obtain rfl : args = #[v0, v1] := by cases args; simp_all
  obtain ⟨A0, c0, ops0, rfl, hR0⟩ := open_ops (hval 0 31 v0 rfl rfl) h0
  obtain ⟨s1, rfl, _, _, _⟩ := open_string Try.underlying9 (hval 1 9 v1 rfl rfl) h1
  have hC := fnChain_any (c := c0) s1.data.toList hR0
  rw [ba_bs] at hC
  exact hC.mono fun e W' ha => law_post hW' hA1 rfl rfl (by rw [Try.params13]; decide +kernel) (by kernel_rfl) rfl ha

theorem proved : Rows.FnChainSaid :=
  OpenClaim.holds_of_wide 13 Try.f13 rfl rfl rfl rfl rfl rfl rfl ⟨rfl, rfl, rfl, rfl, rfl⟩ rfl rfl rfl rfl rfl (by kernel_rfl) Try.func13 (by kernel_rfl)
    (of_decide_eq_true (by kernel_rfl)) (by unfold Func.isWrapper; first | (rw [if_pos (by decide +kernel)]; kernel_rfl) | (rw [if_neg (by decide +kernel)]; exact ⟨rfl, rfl⟩))
    (fun os started H enc _ => lifted os started H enc)

end Go.Proofs.Ytaidaohkbbdimaa.fnChain
