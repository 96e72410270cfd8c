/-
  The walks, part T: the plain list's small functions: Gots, First, Last, Ops, Drops, Turned, Moved, Cuts; sameGots.
-/
import Derived.Test.YtaidaohkbbdimacWS
import Derived.Test.YtaidaohkbbdimacWR
import Derived.Deep.Cut
namespace Go.Proofs.Ytaidaohkbbdimac
open Go.RowKit

set_option maxHeartbeats 2000000 in
set_option maxRecDepth 100000 in
theorem ops_any {w : World} {A : Option Addr} {c : Nat} {l : List Rw} (h : Rd w 2 A l.length (flat rwc l)) (hl : l.length ≤ 1000) :
    Calls Try.prog 21 #[.slice A l.length c] w (Gives opc 3 w (l.map putOp)) := by
  have HR := Lib.hid h
  clear h
  obtain ⟨L, hL⟩ : ∃ L, L = l.length := ⟨_, rfl⟩
  rw [← hL] at HR hl
  rw [← hL]
  have HL := Lib.hid hL
  clear hL
  go_enter Try.func21, Try.ntmps21
  go_wp2_with fail
  go_loopg [3, 8] L (fun g v3 v8 wr => ∃ (i : Nat), v8 = .int .i64 i ∧ i ≤ L ∧ L - i ≤ g ∧ Hid (Acc 26 opc 3 w wr v3 ((l.take i).map putOp)))
  case atStart => exact ⟨0, rfl, Nat.zero_le _, by omega, Lib.hid (Acc.start (Below.refl _ _))⟩
  case round =>
    obtain ⟨i, rfl, hiL, hg, HA⟩ := hrel
    by_cases hi : i < L
    · have hi2 : i < l.length := by have := HL.out; omega
      have hlt : decide ((i : Int) < (L : Int)) = true := by simpa using hi
      have hR2 := HR.out.bel HA.out.bel
      rw [HL.out] at hR2
      obtain ⟨ad, hA, hadl, c0, c1⟩ := hR2.rw_ hi2
      subst hA
      have hA1 := HA.out.below ((Below.refl _ wr).alloc (Nat.le_refl _) (.cells #[.string (ba l[i].1), .int .i64 l[i].2] 42))
      have hA2 := hA1.below ((Below.refl _ _).alloc (Nat.le_refl _) (.cells #[.int .i64 0, .string (ba l[i].1), .int .i64 l[i].2] 26))
      have HB2 := Lib.hid (Bk.new (wr.alloc (.cells #[.string (ba l[i].1), .int .i64 l[i].2] 42)) 26 #[.int .i64 0, .string (ba l[i].1), .int .i64 l[i].2])
      have HLN : Hid (((l.take i).map putOp).length + 1 ≤ 100000) := Lib.hid (by have := List.length_take_le i l; rw [List.length_map]; omega)
      have HS0 : Hid ((wr.alloc (.cells #[.string (ba l[i].1), .int .i64 l[i].2] 42)).heap.size = wr.heap.size + 1) := Lib.hid (by simp)
      have HA2 := Lib.hid hA2
      have HFS : Hid ((l.take (i + 1)).map putOp = (l.take i).map putOp ++ [putOp l[i]]) := Lib.hid (by rw [take_more2 hi2, List.map_append]; rfl)
      have hw1 : IntKind.i64.wrap ((i : Int) + 1) = (i : Int) + 1 := IntWalk.i64_in _ (by omega)
      rw [HS0.out] at HB2
      clear hR2 hA1 hA2
      generalize l[i] = y at *
      go_wp2_with (at_builtin; refine wpList_many rec_op rfl rfl HA2.out.row HA2.out.bel.size HLN.out (by omega) rfl rfl rfl (rd_one (y := putOp y) rfl HB2.out rfl) ?_; intro v' w5 hap)
      have hA5 := HA2.out.app hap
      rw [← HFS.out] at hA5
      have HA5 := Lib.hid hA5
      clear hap hA5
      go_wp2_with fail
      go_roundg (L - (i + 1))
      case measure => omega
      case rel => exact ⟨i + 1, by go_num, by omega, Nat.le_refl _, HA5⟩
    · have hlt : decide ((i : Int) < (L : Int)) = false := by simpa using hi
      have HF : Hid (Acc 26 opc 3 w wr u3 (l.map putOp)) := Lib.hid (by have h := HA.out; rw [List.take_of_length_le (by have := HL.out; omega)] at h; exact h)
      go_wp2_with fail
      go_ret
      exact HF.out.gives


theorem ba_app (a b : Bs) : ba a ++ ba b = ba (a ++ b) := by
  have h : (ba a ++ ba b).data = (ba (a ++ b)).data := by
    unfold ba
    simp
  exact ByteArray.ext h

set_option maxHeartbeats 2000000 in
set_option maxRecDepth 100000 in
theorem moved_any {w : World} {A : Option Addr} {c : Nat} {l : List Opr} (s : Bs) (h : Rd w 3 A l.length (flat opc l)) (hl : l.length ≤ 1000) (hsl : s.length ≤ 1000) (hkl : ∀ o ∈ l, o.key.length ≤ 1000) :
    Calls Try.prog 19 #[.slice A l.length c, .string (ba s)] w (Gives opc 3 w (l.map (mvOp s))) := by
  have HR := Lib.hid h
  have HKL := Lib.hid hkl
  clear h hkl
  obtain ⟨L, hL⟩ : ∃ L, L = l.length := ⟨_, rfl⟩
  rw [← hL] at HR hl
  rw [← hL]
  have HL := Lib.hid hL
  clear hL
  go_enter Try.func19, Try.ntmps19
  go_wp2_with fail
  go_loopg [5, 10] L (fun g v5 v10 wr => ∃ (i : Nat), v10 = .int .i64 i ∧ i ≤ L ∧ L - i ≤ g ∧ Hid (Acc 26 opc 3 w wr v5 ((l.take i).map (mvOp s))))
  case atStart => exact ⟨0, rfl, Nat.zero_le _, by omega, Lib.hid (Acc.start (Below.refl _ _))⟩
  case round =>
    obtain ⟨i, rfl, hiL, hg, HA⟩ := hrel
    by_cases hi : i < L
    · have hi2 : i < l.length := by have := HL.out; omega
      have hlt : decide ((i : Int) < (L : Int)) = true := by simpa using hi
      have hR2 := HR.out.bel HA.out.bel
      rw [HL.out] at hR2
      obtain ⟨ad, hA, hadl, c0, c1, c2⟩ := hR2.op hi2
      subst hA
      have hsum := ba_app s l[i].key
      have hsz : ¬ 9223372036854775807 < (ba s).size + (ba l[i].key).size := by
        rw [ba_size, ba_size]
        have := HKL.out _ (List.getElem_mem hi2)
        omega
      have hA1 := HA.out.below ((Below.refl _ wr).alloc (Nat.le_refl _) (.cells #[.int .i64 l[i].kind, .string (ba l[i].key), .int .i64 l[i].val] 26))
      have hA2 := hA1.below ((Below.refl _ _).alloc (Nat.le_refl _) (.cells #[.int .i64 l[i].kind, .string (ba (s ++ l[i].key)), .int .i64 l[i].val] 26))
      have HB2 := Lib.hid (Bk.new (wr.alloc (.cells #[.int .i64 l[i].kind, .string (ba l[i].key), .int .i64 l[i].val] 26)) 26 #[.int .i64 l[i].kind, .string (ba (s ++ l[i].key)), .int .i64 l[i].val])
      have HLN : Hid (((l.take i).map (mvOp s)).length + 1 ≤ 100000) := Lib.hid (by have := List.length_take_le i l; rw [List.length_map]; omega)
      have HS0 : Hid ((wr.alloc (.cells #[.int .i64 l[i].kind, .string (ba l[i].key), .int .i64 l[i].val] 26)).heap.size = wr.heap.size + 1) := Lib.hid (by simp)
      have HA2 := Lib.hid hA2
      have HFS : Hid ((l.take (i + 1)).map (mvOp s) = (l.take i).map (mvOp s) ++ [mvOp s l[i]]) := Lib.hid (by rw [take_more2 hi2, List.map_append]; rfl)
      have hw1 : IntKind.i64.wrap ((i : Int) + 1) = (i : Int) + 1 := IntWalk.i64_in _ (by omega)
      rw [HS0.out] at HB2
      clear hR2 hA1 hA2
      generalize l[i] = y at *
      go_wp2_with (at_builtin; refine wpList_many rec_op rfl rfl HA2.out.row HA2.out.bel.size HLN.out (by omega) rfl rfl rfl (rd_one (y := mvOp s y) rfl HB2.out rfl) ?_; intro v' w5 hap)
      have hA5 := HA2.out.app hap
      rw [← HFS.out] at hA5
      have HA5 := Lib.hid hA5
      clear hap hA5
      go_wp2_with fail
      go_roundg (L - (i + 1))
      case measure => omega
      case rel => exact ⟨i + 1, by go_num, by omega, Nat.le_refl _, HA5⟩
    · have hlt : decide ((i : Int) < (L : Int)) = false := by simpa using hi
      have HF : Hid (Acc 26 opc 3 w wr u5 (l.map (mvOp s))) := Lib.hid (by have h := HA.out; rw [List.take_of_length_le (by have := HL.out; omega)] at h; exact h)
      go_wp2_with fail
      go_ret
      exact HF.out.gives

def cuts (ops : List Opr) : Bool := ops.any fun o => o.kind == 2
theorem any_take {α : Type} {p : α → Bool} {l : List α} {i : Nat} (hi : i < l.length) (h : (l.take i).any p = false) (hp : p l[i] = false) : (l.take (i + 1)).any p = false := by
  rw [take_more2 hi, List.any_append, h]; simp [hp]
theorem any_yes {α : Type} {p : α → Bool} {l : List α} {i : Nat} (hi : i < l.length) (hp : p l[i] = true) : l.any p = true := List.any_eq_true.2 ⟨_, List.getElem_mem hi, hp⟩

set_option maxHeartbeats 2000000 in
set_option maxRecDepth 100000 in
theorem cuts_any {w : World} {A : Option Addr} {c : Nat} {l : List Opr} (h : Rd w 3 A l.length (flat opc l)) (hl : l.length ≤ 1000) :
    Calls Try.prog 22 #[.slice A l.length c] w (Ans w (.bool (cuts l))) := by
  have HR := Lib.hid h
  clear h
  obtain ⟨L, hL⟩ : ∃ L, L = l.length := ⟨_, rfl⟩
  rw [← hL] at HR hl
  rw [← hL]
  have HL := Lib.hid hL
  clear hL
  go_enter Try.func22, Try.ntmps22
  go_wp2_with fail
  go_loopg [7] L (fun g v7 wr => ∃ (i : Nat), v7 = .int .i64 i ∧ i ≤ L ∧ L - i ≤ g ∧ Below w.heap.size w wr ∧ Hid ((l.take i).any (fun o => o.kind == 2) = false))
  case atStart => exact ⟨0, rfl, Nat.zero_le _, by omega, Below.refl _ _, Lib.hid (by simp)⟩
  case round =>
    obtain ⟨i, rfl, hiL, hg, hb, HM⟩ := hrel
    by_cases hi : i < L
    · have hi2 : i < l.length := by have := HL.out; omega
      have hlt : decide ((i : Int) < (L : Int)) = true := by simpa using hi
      have hR2 := HR.out.bel hb
      rw [HL.out] at hR2
      obtain ⟨ad, hA, hadl, c0, c1, c2⟩ := hR2.op hi2
      subst hA
      have HB1 : Hid (Below w.heap.size w (wr.alloc (.cells #[.int .i64 l[i].kind, .string (ba l[i].key), .int .i64 l[i].val] 26))) := Lib.hid (hb.alloc hb.size _)
      have hw1 : IntKind.i64.wrap ((i : Int) + 1) = (i : Int) + 1 := IntWalk.i64_in _ (by omega)
      clear hR2
      cases hq : l[i].kind == 2 with
      | true =>
        have HO : Hid (cuts l = true) := Lib.hid (any_yes hi2 hq)
        generalize l[i] = y at *
        go_wp2_with fail
        go_ret
        exact ⟨by rw [HO.out]; rfl, HB1.out⟩
      | false =>
        have HM2 := Lib.hid (any_take hi2 HM.out hq)
        generalize l[i] = y at *
        go_wp2_with fail
        go_roundg (L - (i + 1))
        case measure => omega
        case rel => exact ⟨i + 1, by go_num, by omega, Nat.le_refl _, HB1.out, HM2⟩
    · have hlt : decide ((i : Int) < (L : Int)) = false := by simpa using hi
      have HO : Hid (cuts l = false) := Lib.hid (by have h := HM.out; rw [List.take_of_length_le (by have := HL.out; omega)] at h; exact h)
      go_wp2_with fail
      go_ret
      exact ⟨by rw [HO.out]; rfl, hb⟩





end Go.Proofs.Ytaidaohkbbdimac
