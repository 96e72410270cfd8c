/-
  The walks, part R: Run of the thin package.
-/
import Derived.Test.YtaidaohkbbdimaaWL3
namespace Go.Proofs.Ytaidaohkbbdimaa
open Go.RowKit

theorem rec_got : Rec 39 33 gtc 2 16 := by
  obtain ⟨i, h1, h2, h3, h4⟩ := info_parts info_got
  exact ⟨Try.underlying33, ⟨i, _, h1, h2, h3, h4, rfl⟩, by omega, gtc_len, gtc_one⟩

theorem Acc.did {w wr w2 : World} {t : Nat} {n : An} {o : Opr} {v : Value} {l : List (Int × Bool)} (h : Acc 39 gtc 2 w wr v l) (hT : Tr wr t n) (hd : Did wr t n o w2) (hb : Below w.heap.size w w2) : Acc 39 gtc 2 w w2 v l := by
  obtain ⟨n', _, _, _, hm, _⟩ := hd
  refine ⟨own_of h.row fun b hbb => hm.block b (own_lt h.row hbb) fun hi => ?_, hb⟩
  rcases List.mem_cons.1 hi with e | hi
  · subst e; exact own_ne_bk h.row hT.blk (by decide) hbb
  · obtain ⟨ty, cs, hk, ht⟩ := An.kind hT.ok b hi
    rcases ht with rfl | rfl | rfl
    · exact own_ne_bk h.row hk (by decide) hbb
    · exact own_ne_bk h.row hk (by decide) hbb
    · exact own_ne_bk h.row hk (by decide) hbb
theorem Mk.app {w wr w2 : World} {ops : List Opr} {t B : Nat} {n : An} {v v' : Value} {l l' : List (Int × Bool)} (hM : Mk w ops wr t n) (h : Acc 39 gtc 2 w wr v l) (ha : App1 39 gtc 2 B wr v l' v' w2) : Mk w ops w2 t n := by
  refine ⟨hM.tr.keep ha.turned (fun hi => ?_) fun b hb hi => ?_, hM.ents, hM.cmp, ?_, hM.tnew, hM.new⟩
  · exact own_ne_bk h.row hM.tr.blk (by decide) (by simpa using hi)
  · obtain ⟨ty, cs, hk, ht⟩ := An.kind hM.tr.ok b hb
    have hi' : v.ownBlock = some b := by simpa using hi
    rcases ht with rfl | rfl | rfl
    · exact own_ne_bk h.row hk (by decide) hi'
    · exact own_ne_bk h.row hk (by decide) hi'
    · exact own_ne_bk h.row hk (by decide) hi'
  · exact hM.bel.trans (ha.turned.below (fun b hb => (h.row.lt b (by simpa using hb)).1) hM.bel.size)
theorem gots_snoc (a : List Opr) (o : Opr) : gots (a ++ [o]) = gots a ++ [got (rows a) o] := by rw [gots_app]; rfl

set_option maxHeartbeats 2000000 in
set_option maxRecDepth 100000 in
theorem iRun_any {w : World} {A : Option Addr} {c : Nat} {ops : List Opr} (h : Rd w 3 A ops.length (flat opc ops)) (hO : Oks ops) :
    Calls Try.prog 21 #[.slice A ops.length c] w (Gives gtc 2 w (gots ops)) := by
  have HR := Lib.hid h
  have hlen := hO.len
  have HO := Lib.hid hO
  clear h hO
  obtain ⟨L, hL⟩ : ∃ L, L = ops.length := ⟨_, rfl⟩
  rw [← hL] at hlen HR
  rw [← hL]
  have HL := Lib.hid hL
  clear hL
  go_enter Try.func21, Try.ntmps21
  go_wp2_with fail
  refine (new_any w).mono ?_
  rintro e w0 hn
  obtain ⟨t, n, rfl, hm⟩ := Mk.start hn
  have HM := Lib.hid hm
  have HA : Hid (Acc 39 gtc 2 w w0 (.slice none 0 0) (gots (ops.take 0))) := Lib.hid (Acc.start hm.bel)
  clear hn hm
  go_wp2_with fail
  go_loopg [4, 10] L (fun g v4 v10 wr => ∃ (i : Nat) (n : An), v10 = .int .i64 i ∧ i ≤ L ∧ L - i ≤ g ∧ Hid (Mk w (ops.take i) wr t n) ∧ Hid (Acc 39 gtc 2 w wr v4 (gots (ops.take i))))
  case atStart => exact ⟨0, n, rfl, Nat.zero_le _, by omega, HM, HA⟩
  case round =>
    obtain ⟨i, n, rfl, hiL, hg, HM, HA⟩ := hrel
    by_cases hi : i < L
    · have hi2 : i < ops.length := by have := HL.out; omega
      have hlt : decide ((i : Int) < (L : Int)) = true := by simpa using hi
      have hR2 := HR.out.bel HM.out.bel
      rw [HL.out] at hR2
      obtain ⟨ad, hA, hadl, c0, c1, c2⟩ := hR2.op hi2
      subst hA
      clear hR2
      have HB1 : Hid (Below wr.heap.size wr (wr.alloc (.cells #[.int .i64 ops[i].kind, .string (ba ops[i].key), .int .i64 ops[i].val] 37))) := Lib.hid ((Below.refl _ wr).alloc (Nat.le_refl _) _)
      have HM2 := Lib.hid (HM.out.below HB1.out)
      have hD := do_any ops[i] HM2.out.tr (HO.out.key _ (List.getElem_mem hi2)) (by have := HM2.out.len; have := List.length_take_le i ops; have := HO.out.len; omega)
      have HI2 := Lib.hid hi2
      have HD := Lib.hid hD
      clear hD
      go_wp2_with fail
      refine HD.out.mono ?_
      rintro e w2 hP
      obtain ⟨rfl, hDid⟩ := hP
      obtain ⟨n2, hM3⟩ := HM2.out.step hDid
      have hA3 := (HA.out.below HB1.out).did HM2.out.tr hDid hM3.bel
      have hgt : gots (ops.take i) ++ [got n.er.ents ops[i]] = gots (ops.take (i + 1)) := by
        rw [take_more2 HI2.out, gots_snoc, HM.out.ents]; rfl
      rw [← take_more2 HI2.out] at hM3
      have HGT := Lib.hid hgt
      have hM4 := hM3.below ((Below.refl _ w2).alloc (Nat.le_refl _) (.cells #[.int .i64 (got n.er.ents ops[i]).1, .bool (got n.er.ents ops[i]).2] 39))
      have hA4 := hA3.below ((Below.refl _ w2).alloc (Nat.le_refl _) (.cells #[.int .i64 (got n.er.ents ops[i]).1, .bool (got n.er.ents ops[i]).2] 39))
      have HM4 := Lib.hid hM4
      have HA4 := Lib.hid hA4
      have HB2 := Lib.hid (Bk.new w2 39 #[.int .i64 (got n.er.ents ops[i]).1, .bool (got n.er.ents ops[i]).2])
      have HLN : Hid ((gots (ops.take i)).length + 1 ≤ 100000) := Lib.hid (by rw [len_gots]; have := List.length_take_le i ops; have := HO.out.len; omega)
      clear hDid hM3 hA3 hgt hM4 hA4
      have hw1 : IntKind.i64.wrap ((i : Int) + 1) = (i : Int) + 1 := IntWalk.i64_in _ (by omega)
      unfold gtv
      go_wp2_with (at_builtin; refine wpList_many rec_got rfl rfl HA4.out.row HA4.out.bel.size HLN.out (by omega) rfl rfl rfl (rd_one (y := got n.er.ents ops[i]) rfl HB2.out rfl) ?_; intro v' w5 hap)
      rw [HGT.out] at hap
      have HM5 := Lib.hid (HM4.out.app HA4.out hap)
      have HA5 := Lib.hid (HA4.out.app hap)
      clear hap
      go_roundg (L - (i + 1))
      case measure => omega
      case rel => exact ⟨i + 1, n2, by go_num, by omega, Nat.le_refl _, HM5, HA5⟩
    · have hlt : decide ((i : Int) < (L : Int)) = false := by simpa using hi
      have HF : Hid (Acc 39 gtc 2 w wr u4 (gots ops)) := Lib.hid (by have h := HA.out; rw [List.take_of_length_le (by have := HL.out; omega)] at h; exact h)
      go_wp2_with fail
      go_ret
      exact HF.out.gives

end Go.Proofs.Ytaidaohkbbdimaa
