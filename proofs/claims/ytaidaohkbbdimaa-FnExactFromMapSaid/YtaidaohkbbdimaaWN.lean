/-
  The walks, part N: zzFits2, zzFits1, Fit, Then.
  The walks, part N2: Then; sameRows, sameGots.
-/
import Derived.Test.YtaidaohkbbdimaaWL3
namespace Go.Proofs.Ytaidaohkbbdimaa
open Go.RowKit

def most31 : Nat := 2147483647
def fits1 (ops : List Opr) : Bool := decide (ops.length ≤ most31) && ops.all fun o => decide (o.key.length ≤ most31)
def fit (ops : List Opr) : Bool := (ops.all fun o => decide (o.key.length ≤ 200)) && decide (ops.length ≤ 300)

set_option maxHeartbeats 1000000 in
theorem zzFits2_any (w : World) (o : Opr) : Calls Try.prog 44 #[opv o] w (Ans w (.bool (decide (o.key.length ≤ most31)))) := by
  unfold opv
  have hb : Below w.heap.size w (w.alloc (.cells #[.int .i64 o.kind, .string (ba o.key), .int .i64 o.val] 37)) := (Below.refl _ w).alloc (Nat.le_refl _) _
  have HB := Lib.hid hb
  have HS := Lib.hid (ba_size o.key)
  generalize ba o.key = s at *
  clear hb
  by_cases h : s.size ≤ 2147483647
  · have hc : decide ((2147483647 : Int) < (s.size : Int)) = false := decide_eq_false (by omega)
    have HR : Hid (decide (o.key.length ≤ most31) = true) := Lib.hid (by rw [← HS.out]; exact decide_eq_true h)
    clear h
    go_enter Try.func44, Try.ntmps44
    go_wp2_with fail
    go_ret
    exact ⟨by rw [HR.out]; rfl, HB.out⟩
  · have hc : decide ((2147483647 : Int) < (s.size : Int)) = true := decide_eq_true (by omega)
    have HR : Hid (decide (o.key.length ≤ most31) = false) := Lib.hid (by rw [← HS.out]; exact decide_eq_false h)
    clear h
    go_enter Try.func44, Try.ntmps44
    go_wp2_with fail
    go_ret
    exact ⟨by rw [HR.out]; rfl, HB.out⟩

theorem all_take {α : Type} {p : α → Bool} {l : List α} {i : Nat} (hi : i < l.length) (h : (l.take i).all p = true) (hp : p l[i] = true) : (l.take (i + 1)).all p = true := by
  rw [take_more2 hi, List.all_append, h]; simp [hp]
theorem all_not {α : Type} {p : α → Bool} {l : List α} {i : Nat} (hi : i < l.length) (hp : p l[i] = false) : l.all p = false := by
  rw [Bool.eq_false_iff]
  intro h
  have := List.all_eq_true.1 h _ (List.getElem_mem hi)
  rw [hp] at this; cases this

set_option maxHeartbeats 2000000 in
set_option maxRecDepth 100000 in
theorem zzFits1_any {w : World} {A : Option Addr} {c : Nat} {ops : List Opr} (h : Rd w 3 A ops.length (flat opc ops)) :
    Calls Try.prog 19 #[.slice A ops.length c] w (Ans w (.bool (fits1 ops))) := by
  have HR := Lib.hid h
  clear h
  obtain ⟨L, hL⟩ : ∃ L, L = ops.length := ⟨_, rfl⟩
  rw [← hL] at HR
  rw [← hL]
  have HL := Lib.hid hL
  clear hL
  by_cases hm : L ≤ 2147483647
  · have hc : decide ((2147483647 : Int) < (L : Int)) = false := decide_eq_false (by omega)
    have HF : Hid (fits1 ops = ops.all fun o => decide (o.key.length ≤ most31)) := Lib.hid (by unfold fits1; rw [decide_eq_true (show ops.length ≤ most31 by rw [← HL.out]; exact hm)]; rfl)
    go_enter Try.func19, Try.ntmps19
    go_wp2_with fail
    go_loopg [10] L (fun g v10 wr => ∃ (i : Nat), v10 = .int .i64 i ∧ i ≤ L ∧ L - i ≤ g ∧ Below w.heap.size w wr ∧ Hid ((ops.take i).all (fun o => decide (o.key.length ≤ most31)) = true))
    case atStart => exact ⟨0, rfl, Nat.zero_le _, by omega, Below.refl _ _, (rfl : (ops.take 0).all (fun o => decide (o.key.length ≤ most31)) = true)⟩
    case round =>
      obtain ⟨i, rfl, hiL, hg, hb, HM⟩ := hrel
      by_cases hi : i < L
      · have hi2 : i < ops.length := by have := HL.out; omega
        have hlt : decide ((i : Int) < (L : Int)) = true := by simpa using hi
        have hR2 := HR.out.bel hb
        rw [HL.out] at hR2
        obtain ⟨ad, hA, hadl, c0, c1, c2⟩ := hR2.op hi2
        subst hA
        have HZ := Lib.hid (fun W => zzFits2_any W ops[i])
        have HI2 := Lib.hid hi2
        have HB1 : Hid (Below w.heap.size w (wr.alloc (.cells #[.int .i64 ops[i].kind, .string (ba ops[i].key), .int .i64 ops[i].val] 37))) := Lib.hid (hb.alloc hb.size _)
        clear hR2
        go_wp2_with fail
        refine (HZ.out _).mono ?_
        rintro e w2 ⟨rfl, hb2⟩
        have HB2 := Lib.hid (HB1.out.trans (hb2.mono HB1.out.size))
        clear hb2
        cases hk : decide (ops[i].key.length ≤ most31) with
        | true =>
          have HM2 := Lib.hid (all_take HI2.out HM.out hk)
          have hw1 : IntKind.i64.wrap ((i : Int) + 1) = (i : Int) + 1 := IntWalk.i64_in _ (by omega)
          clear hk
          go_wp2_with fail
          go_roundg (L - (i + 1))
          case measure => omega
          case rel => exact ⟨i + 1, by go_num, by omega, Nat.le_refl _, HB2.out, HM2⟩
        | false =>
          have HN := Lib.hid (all_not (p := fun o : Opr => decide (o.key.length ≤ most31)) HI2.out hk)
          clear hk
          go_wp2_with fail
          go_ret
          exact ⟨by rw [HF.out, HN.out]; rfl, HB2.out⟩
      · have hlt : decide ((i : Int) < (L : Int)) = false := by simpa using hi
        have HN : Hid ((ops.all fun o => decide (o.key.length ≤ most31)) = true) := Lib.hid (by have h := HM.out; rw [List.take_of_length_le (by have := HL.out; omega)] at h; exact h)
        go_wp2_with fail
        go_ret
        exact ⟨by rw [HF.out, HN.out]; rfl, hb⟩
  · have hc : decide ((2147483647 : Int) < (L : Int)) = true := decide_eq_true (by omega)
    have HF : Hid (fits1 ops = false) := Lib.hid (by unfold fits1; rw [decide_eq_false (show ¬ ops.length ≤ most31 by rw [← HL.out]; exact hm)]; rfl)
    clear hm
    go_enter Try.func19, Try.ntmps19
    go_wp2_with fail
    go_ret
    exact ⟨by rw [HF.out]; rfl, Below.refl _ _⟩

set_option maxHeartbeats 2000000 in
set_option maxRecDepth 100000 in
theorem fit_any {w : World} {A : Option Addr} {c : Nat} {ops : List Opr} (h : Rd w 3 A ops.length (flat opc ops)) (hm : ops.length ≤ 2147483647) :
    Calls Try.prog 20 #[.slice A ops.length c] w (Ans w (.bool (fit ops))) := by
  have HR := Lib.hid h
  clear h
  obtain ⟨L, hL⟩ : ∃ L, L = ops.length := ⟨_, rfl⟩
  rw [← hL] at HR hm
  rw [← hL]
  have HL := Lib.hid hL
  clear hL
  go_enter Try.func20, Try.ntmps20
  go_wp2_with fail
  go_loopg [7] L (fun g v7 wr => ∃ (i : Nat), v7 = .int .i64 i ∧ i ≤ L ∧ L - i ≤ g ∧ Below w.heap.size w wr ∧ Hid ((ops.take i).all (fun o => decide (o.key.length ≤ 200)) = true))
  case atStart => exact ⟨0, rfl, Nat.zero_le _, by omega, Below.refl _ _, (rfl : (ops.take 0).all (fun o => decide (o.key.length ≤ 200)) = true)⟩
  case round =>
    obtain ⟨i, rfl, hiL, hg, hb, HM⟩ := hrel
    by_cases hi : i < L
    · have hi2 : i < ops.length := by have := HL.out; omega
      have hlt : decide ((i : Int) < (L : Int)) = true := by simpa using hi
      have hR2 := HR.out.bel hb
      rw [HL.out] at hR2
      obtain ⟨ad, hA, hadl, c0, c1, c2⟩ := hR2.op hi2
      subst hA
      have HI2 := Lib.hid hi2
      have HB1 : Hid (Below w.heap.size w (wr.alloc (.cells #[.int .i64 ops[i].kind, .string (ba ops[i].key), .int .i64 ops[i].val] 37))) := Lib.hid (hb.alloc hb.size _)
      have HS := Lib.hid (ba_size ops[i].key)
      clear hR2
      generalize ba ops[i].key = s at *
      by_cases hk : ops[i].key.length ≤ 200
      · have hkc : decide ((200 : Int) < (s.size : Int)) = false := decide_eq_false (by have := HS.out; omega)
        have HM2 := Lib.hid (all_take HI2.out HM.out (p := fun o => decide (o.key.length ≤ 200)) (decide_eq_true hk))
        have hw1 : IntKind.i64.wrap ((i : Int) + 1) = (i : Int) + 1 := IntWalk.i64_in _ (by omega)
        clear hk
        go_wp2_with fail
        go_roundg (L - (i + 1))
        case measure => omega
        case rel => exact ⟨i + 1, by go_num, by omega, Nat.le_refl _, HB1.out, HM2⟩
      · have hkc : decide ((200 : Int) < (s.size : Int)) = true := decide_eq_true (by have := HS.out; omega)
        have HN := Lib.hid (all_not (p := fun o : Opr => decide (o.key.length ≤ 200)) HI2.out (decide_eq_false hk))
        clear hk
        go_wp2_with fail
        go_ret
        exact ⟨by unfold fit; rw [HN.out]; rfl, HB1.out⟩
    · have hlt : decide ((i : Int) < (L : Int)) = false := by simpa using hi
      have HN : Hid (fit ops = decide (L ≤ 300)) := Lib.hid (by have h := HM.out; rw [List.take_of_length_le (by have := HL.out; omega)] at h; unfold fit; rw [h, ← HL.out]; rfl)
      have hc : decide ((L : Int) ≤ 300) = decide (L ≤ 300) := by
        rw [Bool.eq_iff_iff, decide_eq_true_iff, decide_eq_true_iff]; omega
      have HC := Lib.hid hc
      clear hc
      go_wp2_with fail
      go_ret
      exact ⟨by rw [HN.out, ← HC.out]; rfl, hb⟩

end Go.Proofs.Ytaidaohkbbdimaa

namespace Go.Proofs.Ytaidaohkbbdimaa
open Go.RowKit

theorem own_empty {w : World} {B g : Nat} {ty : TypeId} {k : Nat} {α : Type} {f : α → List Value} (h : Bk w g ty #[]) (hB : B ≤ g) : w.ownsRow B ty k (.slice (some ⟨g, 0, none⟩) 0 0) ([] : List α).length (flat f ([] : List α)) :=
  ⟨by simp [flat], Or.inr ⟨g, 0, #[], rfl, hB, h, Nat.le_refl _, Nat.zero_le _, by simp, by simp [flat]⟩⟩

set_option maxHeartbeats 1000000 in
set_option maxRecDepth 100000 in
theorem then_any {w : World} {A A2 : Option Addr} {c c2 : Nat} {a b : List Opr} (ha : Rd w 3 A a.length (flat opc a)) (hb : Rd w 3 A2 b.length (flat opc b)) (hl : a.length + b.length ≤ 100000) :
    Calls Try.prog 22 #[.slice A a.length c, .slice A2 b.length c2] w (Gives opc 3 w (a ++ b)) := by
  have hb0 : Below w.heap.size w (w.alloc (.cells #[] 37)) := (Below.refl _ w).alloc (Nat.le_refl _) _
  have HOW : Hid (Acc 37 opc 3 w (w.alloc (.cells #[] 37)) (.slice (some ⟨w.heap.size, 0, none⟩) 0 0) []) := Lib.hid ⟨own_empty (Bk.new w _ _) (Nat.le_refl _), hb0⟩
  have HA := Lib.hid (ha.bel hb0)
  have HB := Lib.hid hb
  have HL := Lib.hid hl
  clear ha hb hb0 hl
  go_enter Try.func22, Try.ntmps22
  go_wp2_with (first
    | (at_builtin; refine wpList_many rec_op rfl rfl HOW.out.row HOW.out.bel.size (by have := HL.out; simp; omega) (by omega) rfl rfl rfl HA.out ?_; intro v1 w1 hap
       have HOW1 := Lib.hid (HOW.out.app hap)
       clear hap)
    | (at_builtin; refine wpList_many rec_op rfl rfl HOW1.out.row HOW1.out.bel.size (by have := HL.out; simp; omega) (by omega) rfl rfl rfl (HB.out.bel HOW1.out.bel) ?_; intro v2 w2 hap
       have HOW2 := Lib.hid (HOW1.out.app hap)
       clear hap))
  go_ret
  exact HOW2.out.gives

/-! ### Two lists are one -/
theorem ba_inj {a b : Bs} (h : (ba a).toList = (ba b).toList) : a = b := by
  have e : ∀ x : Bs, (ba x).toList = x := fun x => by rw [Lib.toList_data]; exact ba_list x
  rw [e, e] at h; exact h

theorem take_all {α : Type} {a b : List α} (hl : a.length = b.length) (h : a.take a.length = b.take a.length) : a = b := by
  rw [List.take_length, hl, List.take_length] at h; exact h
theorem take_step {α : Type} {a b : List α} {i : Nat} (ha : i < a.length) (hb : i < b.length) (h : a.take i = b.take i) (e : a[i] = b[i]) : a.take (i + 1) = b.take (i + 1) := by
  rw [take_more2 ha, take_more2 hb, h, e]

set_option maxHeartbeats 2000000 in
set_option maxRecDepth 100000 in
theorem sameRows_any {w : World} {A A2 : Option Addr} {c c2 : Nat} {a b : List Rw} (ha : Rd w 2 A a.length (flat rwc a)) (hb : Rd w 2 A2 b.length (flat rwc b)) (hl : a.length ≤ 100000) :
    Calls Try.prog 26 #[.slice A a.length c, .slice A2 b.length c2] w (Ans w (.bool (decide (a = b)))) := by
  have HA := Lib.hid ha
  have HB := Lib.hid hb
  clear ha hb
  by_cases he : a.length = b.length
  · obtain ⟨L, hL⟩ : ∃ L, L = a.length := ⟨_, rfl⟩
    rw [← he] at HB
    rw [← he]
    rw [← hL] at HA HB hl
    rw [← hL]
    have HE := Lib.hid he
    have HL := Lib.hid hL
    clear hL he
    go_enter Try.func26, Try.ntmps26
    go_wp2_with fail
    go_loopg [13] L (fun g v13 wr => ∃ (i : Nat), v13 = .int .i64 i ∧ i ≤ L ∧ L - i ≤ g ∧ Below w.heap.size w wr ∧ Hid (a.take i = b.take i))
    case atStart => exact ⟨0, rfl, Nat.zero_le _, by omega, Below.refl _ _, (by rfl : a.take 0 = b.take 0)⟩
    case round =>
      obtain ⟨i, rfl, hiL, hg, hb, HM⟩ := hrel
      by_cases hi : i < L
      · have hia : i < a.length := by have := HL.out; omega
        have hib : i < b.length := by have := HL.out; have := HE.out; omega
        have hlt : decide ((i : Int) < (L : Int)) = true := by simpa using hi
        have hRA := HA.out.bel hb
        have hRB := HB.out.bel hb
        rw [HL.out] at hRA hRB
        rw [HE.out] at hRB
        obtain ⟨ad, hA, hadl, c0, c1⟩ := hRA.rw_ hia
        obtain ⟨ad2, hA2, hadl2, d0, d1⟩ := hRB.rw_ hib
        subst hA
        subst hA2
        clear hRA hRB
        by_cases hx : a[i] = b[i]
        · have HM2 := Lib.hid (take_step hia hib HM.out hx)
          rw [← hx] at d0 d1
          have hw1 : IntKind.i64.wrap ((i : Int) + 1) = (i : Int) + 1 := IntWalk.i64_in _ (by omega)
          clear hx
          go_wp2_with fail
          go_quiet (fail)
          go_wp2_with fail
          go_roundg (L - (i + 1))
          case measure => omega
          case rel => exact ⟨i + 1, by go_num, by omega, Nat.le_refl _, below_drewN hb _, HM2⟩
        · have HN : Hid (decide (a = b) = false) := Lib.hid (decide_eq_false fun e => hx (by subst e; rfl))
          by_cases hk : (ba a[i].1).toList = (ba b[i].1).toList
          · have hv : ¬ a[i].2 = b[i].2 := fun e => hx (Prod.ext (ba_inj hk) e)
            rw [← ba_inj hk] at d0
            clear hx hk
            generalize a[i].2 = x at *
            generalize b[i].2 = y at *
            generalize ba a[i].1 = z at *
            go_wp2_with fail
            go_quiet (fail)
            go_wp2_with fail
            go_ret
            exact ⟨by rw [HN.out]; rfl, below_drewN hb _⟩
          · clear hx
            generalize a[i].2 = x at *
            generalize b[i].2 = y at *
            generalize ba a[i].1 = z at *
            generalize ba b[i].1 = u at *
            go_wp2_with fail
            go_quiet (fail)
            go_wp2_with fail
            go_ret
            exact ⟨by rw [HN.out]; rfl, below_drewN hb _⟩
      · have hlt : decide ((i : Int) < (L : Int)) = false := by simpa using hi
        have HN : Hid (decide (a = b) = true) := Lib.hid (decide_eq_true (take_all HE.out (by have h := HM.out; have e : i = a.length := by have := HL.out; omega
                                                                                              rw [e] at h; exact h)))
        go_wp2_with fail
        go_ret
        exact ⟨by rw [HN.out]; rfl, hb⟩
  · have HN : Hid (decide (a = b) = false) := Lib.hid (decide_eq_false fun e => he (by rw [e]))
    have hne : ((a.length : Int) != (b.length : Int)) = true := by rw [bne_iff_ne]; omega
    generalize a.length = x at *
    generalize b.length = y at *
    clear he
    go_enter Try.func26, Try.ntmps26
    go_wp2_with fail
    go_ret
    exact ⟨by rw [HN.out]; rfl, Below.refl _ _⟩

end Go.Proofs.Ytaidaohkbbdimaa
