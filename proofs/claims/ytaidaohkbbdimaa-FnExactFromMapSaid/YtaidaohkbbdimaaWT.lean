/-
  The walks, part T: the plain list's small functions: Gots, First, Last, Ops, Drops, Turned, Moved, Cuts; sameGots.
-/
import Derived.Test.YtaidaohkbbdimaaWS
import Derived.Test.YtaidaohkbbdimaaWR
import Derived.Deep.Cut
namespace Go.Proofs.Ytaidaohkbbdimaa
open Go.RowKit

set_option maxHeartbeats 2000000 in
set_option maxRecDepth 100000 in
theorem ops_any {w : World} {A : Option Addr} {c : Nat} {l : List Rw} (h : Rd w 2 A l.length (flat rwc l)) (hl : l.length ≤ 1000) :
    Calls Try.prog 39 #[.slice A l.length c] w (Gives opc 3 w (l.map putOp)) := by
  have HR := Lib.hid h
  clear h
  obtain ⟨L, hL⟩ : ∃ L, L = l.length := ⟨_, rfl⟩
  rw [← hL] at HR hl
  rw [← hL]
  have HL := Lib.hid hL
  clear hL
  go_enter Try.func39, Try.ntmps39
  go_wp2_with fail
  go_loopg [3, 8] L (fun g v3 v8 wr => ∃ (i : Nat), v8 = .int .i64 i ∧ i ≤ L ∧ L - i ≤ g ∧ Hid (Acc 37 opc 3 w wr v3 ((l.take i).map putOp)))
  case atStart => exact ⟨0, rfl, Nat.zero_le _, by omega, Lib.hid (Acc.start (Below.refl _ _))⟩
  case round =>
    obtain ⟨i, rfl, hiL, hg, HA⟩ := hrel
    by_cases hi : i < L
    · have hi2 : i < l.length := by have := HL.out; omega
      have hlt : decide ((i : Int) < (L : Int)) = true := by simpa using hi
      have hR2 := HR.out.bel HA.out.bel
      rw [HL.out] at hR2
      obtain ⟨ad, hA, hadl, c0, c1⟩ := hR2.rw_ hi2
      subst hA
      have hA1 := HA.out.below ((Below.refl _ wr).alloc (Nat.le_refl _) (.cells #[.string (ba l[i].1), .int .i64 l[i].2] 28))
      have hA2 := hA1.below ((Below.refl _ _).alloc (Nat.le_refl _) (.cells #[.int .i64 0, .string (ba l[i].1), .int .i64 l[i].2] 37))
      have HB2 := Lib.hid (Bk.new (wr.alloc (.cells #[.string (ba l[i].1), .int .i64 l[i].2] 28)) 37 #[.int .i64 0, .string (ba l[i].1), .int .i64 l[i].2])
      have HLN : Hid (((l.take i).map putOp).length + 1 ≤ 100000) := Lib.hid (by have := List.length_take_le i l; rw [List.length_map]; omega)
      have HS0 : Hid ((wr.alloc (.cells #[.string (ba l[i].1), .int .i64 l[i].2] 28)).heap.size = wr.heap.size + 1) := Lib.hid (by simp)
      have HA2 := Lib.hid hA2
      have HFS : Hid ((l.take (i + 1)).map putOp = (l.take i).map putOp ++ [putOp l[i]]) := Lib.hid (by rw [take_more2 hi2, List.map_append]; rfl)
      have hw1 : IntKind.i64.wrap ((i : Int) + 1) = (i : Int) + 1 := IntWalk.i64_in _ (by omega)
      rw [HS0.out] at HB2
      clear hR2 hA1 hA2
      generalize l[i] = y at *
      go_wp2_with (at_builtin; refine wpList_many rec_op rfl rfl HA2.out.row HA2.out.bel.size HLN.out (by omega) rfl rfl rfl (rd_one (y := putOp y) rfl HB2.out rfl) ?_; intro v' w5 hap)
      have hA5 := HA2.out.app hap
      rw [← HFS.out] at hA5
      have HA5 := Lib.hid hA5
      clear hap hA5
      go_wp2_with fail
      go_roundg (L - (i + 1))
      case measure => omega
      case rel => exact ⟨i + 1, by go_num, by omega, Nat.le_refl _, HA5⟩
    · have hlt : decide ((i : Int) < (L : Int)) = false := by simpa using hi
      have HF : Hid (Acc 37 opc 3 w wr u3 (l.map putOp)) := Lib.hid (by have h := HA.out; rw [List.take_of_length_le (by have := HL.out; omega)] at h; exact h)
      go_wp2_with fail
      go_ret
      exact HF.out.gives

set_option maxHeartbeats 2000000 in
set_option maxRecDepth 100000 in
theorem drops_any {w : World} {A : Option Addr} {c : Nat} {l : List Rw} (h : Rd w 2 A l.length (flat rwc l)) (hl : l.length ≤ 1000) :
    Calls Try.prog 25 #[.slice A l.length c] w (Gives opc 3 w (l.map dropOp)) := by
  have HR := Lib.hid h
  clear h
  obtain ⟨L, hL⟩ : ∃ L, L = l.length := ⟨_, rfl⟩
  rw [← hL] at HR hl
  rw [← hL]
  have HL := Lib.hid hL
  clear hL
  go_enter Try.func25, Try.ntmps25
  go_wp2_with fail
  go_loopg [3, 8] L (fun g v3 v8 wr => ∃ (i : Nat), v8 = .int .i64 i ∧ i ≤ L ∧ L - i ≤ g ∧ Hid (Acc 37 opc 3 w wr v3 ((l.take i).map dropOp)))
  case atStart => exact ⟨0, rfl, Nat.zero_le _, by omega, Lib.hid (Acc.start (Below.refl _ _))⟩
  case round =>
    obtain ⟨i, rfl, hiL, hg, HA⟩ := hrel
    by_cases hi : i < L
    · have hi2 : i < l.length := by have := HL.out; omega
      have hlt : decide ((i : Int) < (L : Int)) = true := by simpa using hi
      have hR2 := HR.out.bel HA.out.bel
      rw [HL.out] at hR2
      obtain ⟨ad, hA, hadl, c0, c1⟩ := hR2.rw_ hi2
      subst hA
      have hA1 := HA.out.below ((Below.refl _ wr).alloc (Nat.le_refl _) (.cells #[.string (ba l[i].1), .int .i64 l[i].2] 28))
      have hA2 := hA1.below ((Below.refl _ _).alloc (Nat.le_refl _) (.cells #[.int .i64 1, .string (ba l[i].1), .int .i64 0] 37))
      have HB2 := Lib.hid (Bk.new (wr.alloc (.cells #[.string (ba l[i].1), .int .i64 l[i].2] 28)) 37 #[.int .i64 1, .string (ba l[i].1), .int .i64 0])
      have HLN : Hid (((l.take i).map dropOp).length + 1 ≤ 100000) := Lib.hid (by have := List.length_take_le i l; rw [List.length_map]; omega)
      have HS0 : Hid ((wr.alloc (.cells #[.string (ba l[i].1), .int .i64 l[i].2] 28)).heap.size = wr.heap.size + 1) := Lib.hid (by simp)
      have HA2 := Lib.hid hA2
      have HFS : Hid ((l.take (i + 1)).map dropOp = (l.take i).map dropOp ++ [dropOp l[i]]) := Lib.hid (by rw [take_more2 hi2, List.map_append]; rfl)
      have hw1 : IntKind.i64.wrap ((i : Int) + 1) = (i : Int) + 1 := IntWalk.i64_in _ (by omega)
      rw [HS0.out] at HB2
      clear hR2 hA1 hA2
      generalize l[i] = y at *
      go_wp2_with (at_builtin; refine wpList_many rec_op rfl rfl HA2.out.row HA2.out.bel.size HLN.out (by omega) rfl rfl rfl (rd_one (y := dropOp y) rfl HB2.out rfl) ?_; intro v' w5 hap)
      have hA5 := HA2.out.app hap
      rw [← HFS.out] at hA5
      have HA5 := Lib.hid hA5
      clear hap hA5
      go_wp2_with fail
      go_roundg (L - (i + 1))
      case measure => omega
      case rel => exact ⟨i + 1, by go_num, by omega, Nat.le_refl _, HA5⟩
    · have hlt : decide ((i : Int) < (L : Int)) = false := by simpa using hi
      have HF : Hid (Acc 37 opc 3 w wr u3 (l.map dropOp)) := Lib.hid (by have h := HA.out; rw [List.take_of_length_le (by have := HL.out; omega)] at h; exact h)
      go_wp2_with fail
      go_ret
      exact HF.out.gives





set_option maxHeartbeats 2000000 in
set_option maxRecDepth 100000 in
theorem sameGots_any {w : World} {A A2 : Option Addr} {c c2 : Nat} {a b : List (Int × Bool)} (ha : Rd w 2 A a.length (flat gtc a)) (hb : Rd w 2 A2 b.length (flat gtc b)) (hl : a.length ≤ 100000) :
    Calls Try.prog 32 #[.slice A a.length c, .slice A2 b.length c2] w (Ans w (.bool (decide (a = b)))) := by
  have HA := Lib.hid ha
  have HB := Lib.hid hb
  clear ha hb
  by_cases he : a.length = b.length
  · obtain ⟨L, hL⟩ : ∃ L, L = a.length := ⟨_, rfl⟩
    rw [← he] at HB
    rw [← he]
    rw [← hL] at HA HB hl
    rw [← hL]
    have HE := Lib.hid he
    have HL := Lib.hid hL
    clear hL he
    go_enter Try.func32, Try.ntmps32
    go_wp2_with fail
    go_loopg [13] L (fun g v13 wr => ∃ (i : Nat), v13 = .int .i64 i ∧ i ≤ L ∧ L - i ≤ g ∧ Below w.heap.size w wr ∧ Hid (a.take i = b.take i))
    case atStart => exact ⟨0, rfl, Nat.zero_le _, by omega, Below.refl _ _, (by rfl : a.take 0 = b.take 0)⟩
    case round =>
      obtain ⟨i, rfl, hiL, hg, hb, HM⟩ := hrel
      by_cases hi : i < L
      · have hia : i < a.length := by have := HL.out; omega
        have hib : i < b.length := by have := HL.out; have := HE.out; omega
        have hlt : decide ((i : Int) < (L : Int)) = true := by simpa using hi
        have hRA := HA.out.bel hb
        have hRB := HB.out.bel hb
        rw [HL.out] at hRA hRB
        rw [HE.out] at hRB
        obtain ⟨ad, hA, hadl, c0, c1⟩ := hRA.gt_ hia
        obtain ⟨ad2, hA2, hadl2, d0, d1⟩ := hRB.gt_ hib
        subst hA
        subst hA2
        clear hRA hRB
        by_cases hx : a[i] = b[i]
        · have HM2 := Lib.hid (take_step hia hib HM.out hx)
          rw [← hx] at d0 d1
          have hw1 : IntKind.i64.wrap ((i : Int) + 1) = (i : Int) + 1 := IntWalk.i64_in _ (by omega)
          clear hx
          go_wp2_with fail
          go_quiet (fail)
          go_wp2_with fail
          go_roundg (L - (i + 1))
          case measure => omega
          case rel => exact ⟨i + 1, by go_num, by omega, Nat.le_refl _, below_drewN hb _, HM2⟩
        · have HN : Hid (decide (a = b) = false) := Lib.hid (decide_eq_false fun e => hx (by subst e; rfl))
          by_cases hk : a[i].1 = b[i].1
          · have hv : ¬ a[i].2 = b[i].2 := fun e => hx (Prod.ext hk e)
            rw [← hk] at d0
            clear hx hk
            generalize a[i].1 = z at *
            generalize a[i].2 = x at *
            generalize b[i].2 = y at *
            go_wp2_with fail
            go_quiet (fail)
            go_wp2_with fail
            go_ret
            exact ⟨by rw [HN.out]; rfl, below_drewN hb _⟩
          · clear hx
            generalize a[i].2 = x at *
            generalize b[i].2 = y at *
            generalize a[i].1 = z at *
            generalize b[i].1 = u at *
            go_wp2_with fail
            go_quiet (fail)
            go_wp2_with fail
            go_ret
            exact ⟨by rw [HN.out]; rfl, below_drewN hb _⟩
      · have hlt : decide ((i : Int) < (L : Int)) = false := by simpa using hi
        have HN : Hid (decide (a = b) = true) := Lib.hid (decide_eq_true (take_all HE.out (by have h := HM.out; have e : i = a.length := by have := HL.out; omega
                                                                                              rw [e] at h; exact h)))
        go_wp2_with fail
        go_ret
        exact ⟨by rw [HN.out]; rfl, hb⟩
  · have HN : Hid (decide (a = b) = false) := Lib.hid (decide_eq_false fun e => he (by rw [e]))
    have hne : ((a.length : Int) != (b.length : Int)) = true := by rw [bne_iff_ne]; omega
    generalize a.length = x at *
    generalize b.length = y at *
    clear he
    go_enter Try.func32, Try.ntmps32
    go_wp2_with fail
    go_ret
    exact ⟨by rw [HN.out]; rfl, Below.refl _ _⟩

set_option maxHeartbeats 2000000 in
set_option maxRecDepth 100000 in
theorem sGots_any {w : World} {A : Option Addr} {c : Nat} {ops : List Opr} (h : Rd w 3 A ops.length (flat opc ops)) (hl : ops.length ≤ 1000) :
    Calls Try.prog 33 #[.slice A ops.length c] w (Gives gtc 2 w (gots ops)) := by
  have HR := Lib.hid h
  clear h
  obtain ⟨L, hL⟩ : ∃ L, L = ops.length := ⟨_, rfl⟩
  rw [← hL] at hl HR
  rw [← hL]
  have HL := Lib.hid hL
  clear hL
  go_enter Try.func33, Try.ntmps33
  go_wp2_with fail
  go_loopg [3, 4, 11] L (fun g v3 v4 v11 wr => ∃ (i : Nat), v11 = .int .i64 i ∧ i ≤ L ∧ L - i ≤ g ∧ Hid (Acc 39 gtc 2 w wr v4 (gots (ops.take i))) ∧ ∃ (A1 : Option Addr) (n1 c1 : Nat), v3 = .slice A1 n1 c1 ∧ Hid (n1 = (rows (ops.take i)).length ∧ wr.ownsRow 0 28 2 (.slice A1 n1 c1) n1 (flat rwc (rows (ops.take i)))))
  case atStart => exact ⟨0, rfl, Nat.zero_le _, by omega, Lib.hid (Acc.start (Below.refl _ _)), none, 0, 0, rfl, Lib.hid ⟨rfl, by simp [flat, rows, rowsFrom], Or.inl ⟨rfl, rfl⟩⟩⟩
  case round =>
    obtain ⟨i, rfl, hiL, hg, HA, A1, n1, c1, rfl, HS⟩ := hrel
    by_cases hi : i < L
    · have hi2 : i < ops.length := by have := HL.out; omega
      have hlt : decide ((i : Int) < (L : Int)) = true := by simpa using hi
      have hR2 := HR.out.bel HA.out.bel
      rw [HL.out] at hR2
      obtain ⟨ad, hA, hadl, d0, d1, d2⟩ := hR2.op hi2
      subst hA
      clear hR2
      have hb1 : Below wr.heap.size wr (wr.alloc (.cells #[.int .i64 ops[i].kind, .string (ba ops[i].key), .int .i64 ops[i].val] 37)) := (Below.refl _ wr).alloc (Nat.le_refl _) _
      have HA1 := Lib.hid (HA.out.below hb1)
      have hlr : (rows (ops.take i)).length ≤ 1000 := by have := len_rows (ops.take i); have := List.length_take_le i ops; omega
      have hD := done_any (c := c1) ops[i] (srt_rows (ops.take i)) (HS.out.1 ▸ Rd.own (own_below HS.out.2 hb1)) hlr
      rw [← HS.out.1] at hD
      have HD := Lib.hid hD
      have HST : Hid (step (rows (ops.take i)) ops[i] = rows (ops.take (i + 1))) := Lib.hid (by rw [← rows_snoc, take_more2 hi2])
      have HGT : Hid (gots (ops.take i) ++ [got (rows (ops.take i)) ops[i]] = gots (ops.take (i + 1))) := Lib.hid (by rw [take_more2 hi2, gots_snoc])
      have HLN : Hid ((gots (ops.take i)).length + 1 ≤ 100000) := Lib.hid (by rw [len_gots]; have := List.length_take_le i ops; omega)
      clear hD hlr hb1
      have hw1 : IntKind.i64.wrap ((i : Int) + 1) = (i : Int) + 1 := IntWalk.i64_in _ (by omega)
      go_wp2_with fail
      refine HD.out.mono ?_
      rintro e w2 ⟨A2, c2, rfl, hR2, hb2⟩
      generalize got (rows (ops.take i)) ops[i] = gt at *
      rw [HST.out] at hR2
      have hA3 := HA1.out.below hb2
      have hb4 : Below w2.heap.size w2 ((w2.alloc (.cells #[.int .i64 gt.1, .bool gt.2] 39))) := (Below.refl _ w2).alloc (Nat.le_refl _) _
      have hA4 := hA3.below hb4
      have hb5 : Below (w2.alloc (.cells #[.int .i64 gt.1, .bool gt.2] 39)).heap.size (w2.alloc (.cells #[.int .i64 gt.1, .bool gt.2] 39)) ((w2.alloc (.cells #[.int .i64 gt.1, .bool gt.2] 39)).alloc (.cells #[.int .i64 gt.1, .bool gt.2] 39)) := (Below.refl _ _).alloc (Nat.le_refl _) _
      have HA5 := Lib.hid (hA4.below hb5)
      have HB2 := Lib.hid (Bk.new (w2.alloc (.cells #[.int .i64 gt.1, .bool gt.2] 39)) 39 #[.int .i64 gt.1, .bool gt.2])
      have HS0 : Hid ((w2.alloc (.cells #[.int .i64 gt.1, .bool gt.2] 39)).heap.size = w2.heap.size + 1) := Lib.hid (by simp)
      have HR2 := Lib.hid (own_below (own_below hR2 hb4) hb5)
      rw [HST.out]
      rw [HS0.out] at HB2
      clear hR2 hb2 hA3 hb4 hb5 hA4 d0 d1 d2
      unfold gtv
      go_wp2_with (at_builtin; refine wpList_many rec_got rfl rfl HA5.out.row HA5.out.bel.size HLN.out (by omega) rfl rfl rfl (rd_one (y := gt) rfl HB2.out rfl) ?_; intro v' w5 hap)
      rw [HGT.out] at hap
      have hR6 := own_of HR2.out fun b hbb => hap.turned.block b (own_lt HR2.out hbb) (own_apart HR2.out HA5.out.row (by decide) b hbb)
      have HA6 := Lib.hid (HA5.out.app hap)
      have HR6 := Lib.hid hR6
      clear hap hR6
      go_wp2_with fail
      go_roundg (L - (i + 1))
      case measure => omega
      case rel => exact ⟨i + 1, by go_num, by omega, Nat.le_refl _, HA6, A2, _, c2, rfl, Lib.hid ⟨rfl, HR6.out⟩⟩
    · have hlt : decide ((i : Int) < (L : Int)) = false := by simpa using hi
      have HF : Hid (Acc 39 gtc 2 w wr u4 (gots ops)) := Lib.hid (by have h := HA.out; rw [List.take_of_length_le (by have := HL.out; omega)] at h; exact h)
      go_wp2_with fail
      go_ret
      exact HF.out.gives

end Go.Proofs.Ytaidaohkbbdimaa
