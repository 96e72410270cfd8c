/-
  The walks, part T: the plain list's small functions: Gots, First, Last, Ops, Drops, Turned, Moved, Cuts; sameGots.
-/
import Derived.Test.YtaidaohkbbdimabWS
import Derived.Test.YtaidaohkbbdimabWR
import Derived.Deep.Cut
namespace Go.Proofs.Ytaidaohkbbdimab
open Go.RowKit

set_option maxHeartbeats 2000000 in
set_option maxRecDepth 100000 in
theorem ops_any {w : World} {A : Option Addr} {c : Nat} {l : List Rw} (h : Rd w 2 A l.length (flat rwc l)) (hl : l.length ≤ 1000) :
    Calls Try.prog 21 #[.slice A l.length c] w (Gives opc 3 w (l.map putOp)) := by
  have HR := Lib.hid h
  clear h
  obtain ⟨L, hL⟩ : ∃ L, L = l.length := ⟨_, rfl⟩
  rw [← hL] at HR hl
  rw [← hL]
  have HL := Lib.hid hL
  clear hL
  go_enter Try.func21, Try.ntmps21
  go_wp2_with fail
  go_loopg [3, 8] L (fun g v3 v8 wr => ∃ (i : Nat), v8 = .int .i64 i ∧ i ≤ L ∧ L - i ≤ g ∧ Hid (Acc 53 opc 3 w wr v3 ((l.take i).map putOp)))
  case atStart => exact ⟨0, rfl, Nat.zero_le _, by omega, Lib.hid (Acc.start (Below.refl _ _))⟩
  case round =>
    obtain ⟨i, rfl, hiL, hg, HA⟩ := hrel
    by_cases hi : i < L
    · have hi2 : i < l.length := by have := HL.out; omega
      have hlt : decide ((i : Int) < (L : Int)) = true := by simpa using hi
      have hR2 := HR.out.bel HA.out.bel
      rw [HL.out] at hR2
      obtain ⟨ad, hA, hadl, c0, c1⟩ := hR2.rw_ hi2
      subst hA
      have hA1 := HA.out.below ((Below.refl _ wr).alloc (Nat.le_refl _) (.cells #[.string (ba l[i].1), .int .i64 l[i].2] 35))
      have hA2 := hA1.below ((Below.refl _ _).alloc (Nat.le_refl _) (.cells #[.int .i64 0, .string (ba l[i].1), .int .i64 l[i].2] 53))
      have HB2 := Lib.hid (Bk.new (wr.alloc (.cells #[.string (ba l[i].1), .int .i64 l[i].2] 35)) 53 #[.int .i64 0, .string (ba l[i].1), .int .i64 l[i].2])
      have HLN : Hid (((l.take i).map putOp).length + 1 ≤ 100000) := Lib.hid (by have := List.length_take_le i l; rw [List.length_map]; omega)
      have HS0 : Hid ((wr.alloc (.cells #[.string (ba l[i].1), .int .i64 l[i].2] 35)).heap.size = wr.heap.size + 1) := Lib.hid (by simp)
      have HA2 := Lib.hid hA2
      have HFS : Hid ((l.take (i + 1)).map putOp = (l.take i).map putOp ++ [putOp l[i]]) := Lib.hid (by rw [take_more2 hi2, List.map_append]; rfl)
      have hw1 : IntKind.i64.wrap ((i : Int) + 1) = (i : Int) + 1 := IntWalk.i64_in _ (by omega)
      rw [HS0.out] at HB2
      clear hR2 hA1 hA2
      generalize l[i] = y at *
      go_wp2_with (at_builtin; refine wpList_many rec_op rfl rfl HA2.out.row HA2.out.bel.size HLN.out (by omega) rfl rfl rfl (rd_one (y := putOp y) rfl HB2.out rfl) ?_; intro v' w5 hap)
      have hA5 := HA2.out.app hap
      rw [← HFS.out] at hA5
      have HA5 := Lib.hid hA5
      clear hap hA5
      go_wp2_with fail
      go_roundg (L - (i + 1))
      case measure => omega
      case rel => exact ⟨i + 1, by go_num, by omega, Nat.le_refl _, HA5⟩
    · have hlt : decide ((i : Int) < (L : Int)) = false := by simpa using hi
      have HF : Hid (Acc 53 opc 3 w wr u3 (l.map putOp)) := Lib.hid (by have h := HA.out; rw [List.take_of_length_le (by have := HL.out; omega)] at h; exact h)
      go_wp2_with fail
      go_ret
      exact HF.out.gives



def cuts (ops : List Opr) : Bool := ops.any fun o => o.kind == 2
theorem any_take {α : Type} {p : α → Bool} {l : List α} {i : Nat} (hi : i < l.length) (h : (l.take i).any p = false) (hp : p l[i] = false) : (l.take (i + 1)).any p = false := by
  rw [take_more2 hi, List.any_append, h]; simp [hp]
theorem any_yes {α : Type} {p : α → Bool} {l : List α} {i : Nat} (hi : i < l.length) (hp : p l[i] = true) : l.any p = true := List.any_eq_true.2 ⟨_, List.getElem_mem hi, hp⟩

set_option maxHeartbeats 2000000 in
set_option maxRecDepth 100000 in
theorem cuts_any {w : World} {A : Option Addr} {c : Nat} {l : List Opr} (h : Rd w 3 A l.length (flat opc l)) (hl : l.length ≤ 1000) :
    Calls Try.prog 25 #[.slice A l.length c] w (Ans w (.bool (cuts l))) := by
  have HR := Lib.hid h
  clear h
  obtain ⟨L, hL⟩ : ∃ L, L = l.length := ⟨_, rfl⟩
  rw [← hL] at HR hl
  rw [← hL]
  have HL := Lib.hid hL
  clear hL
  go_enter Try.func25, Try.ntmps25
  go_wp2_with fail
  go_loopg [7] L (fun g v7 wr => ∃ (i : Nat), v7 = .int .i64 i ∧ i ≤ L ∧ L - i ≤ g ∧ Below w.heap.size w wr ∧ Hid ((l.take i).any (fun o => o.kind == 2) = false))
  case atStart => exact ⟨0, rfl, Nat.zero_le _, by omega, Below.refl _ _, Lib.hid (by simp)⟩
  case round =>
    obtain ⟨i, rfl, hiL, hg, hb, HM⟩ := hrel
    by_cases hi : i < L
    · have hi2 : i < l.length := by have := HL.out; omega
      have hlt : decide ((i : Int) < (L : Int)) = true := by simpa using hi
      have hR2 := HR.out.bel hb
      rw [HL.out] at hR2
      obtain ⟨ad, hA, hadl, c0, c1, c2⟩ := hR2.op hi2
      subst hA
      have HB1 : Hid (Below w.heap.size w (wr.alloc (.cells #[.int .i64 l[i].kind, .string (ba l[i].key), .int .i64 l[i].val] 53))) := Lib.hid (hb.alloc hb.size _)
      have hw1 : IntKind.i64.wrap ((i : Int) + 1) = (i : Int) + 1 := IntWalk.i64_in _ (by omega)
      clear hR2
      cases hq : l[i].kind == 2 with
      | true =>
        have HO : Hid (cuts l = true) := Lib.hid (any_yes hi2 hq)
        generalize l[i] = y at *
        go_wp2_with fail
        go_ret
        exact ⟨by rw [HO.out]; rfl, HB1.out⟩
      | false =>
        have HM2 := Lib.hid (any_take hi2 HM.out hq)
        generalize l[i] = y at *
        go_wp2_with fail
        go_roundg (L - (i + 1))
        case measure => omega
        case rel => exact ⟨i + 1, by go_num, by omega, Nat.le_refl _, HB1.out, HM2⟩
    · have hlt : decide ((i : Int) < (L : Int)) = false := by simpa using hi
      have HO : Hid (cuts l = false) := Lib.hid (by have h := HM.out; rw [List.take_of_length_le (by have := HL.out; omega)] at h; exact h)
      go_wp2_with fail
      go_ret
      exact ⟨by rw [HO.out]; rfl, hb⟩

theorem Rd.take {w : World} {A : Option Addr} {l : List Rw} {n : Nat} (h : Rd w 2 A l.length (flat rwc l)) (hn : n ≤ l.length) : Rd w 2 A n (flat rwc (l.take n)) := by
  refine ⟨by rw [flat_len rwc_len, List.length_take, Nat.min_eq_left hn], fun h0 => ?_⟩
  obtain ⟨ad, e, hlt, hc⟩ := h.2 (by omega)
  refine ⟨ad, e, hlt, fun j u hu => hc j u ?_⟩
  rw [← flat_take rwc_len, List.getElem?_take] at hu
  split at hu
  · exact hu
  · cases hu

set_option maxHeartbeats 2000000 in
set_option maxRecDepth 100000 in
theorem first_any {w : World} {A : Option Addr} {c : Nat} {l : List Rw} (most : Int) (h : Rd w 2 A l.length (flat rwc l)) (hc : l.length ≤ c) :
    Calls Try.prog 19 #[.slice A l.length c, .int .i64 most] w (Gives rwc 2 w (first l most)) := by
  by_cases h1 : most < 1
  · have hq : decide (most < 1) = true := by simpa using h1
    have HR : Hid (Rd w 2 A l.length (flat rwc l)) := Lib.hid h
    have HF : Hid (first l most = l) := Lib.hid (by unfold first; rw [if_pos (Or.inl h1)])
    clear h h1
    go_enter Try.func19, Try.ntmps19
    go_wp2_with fail
    go_ret
    exact ⟨A, c, by rw [HF.out]; rfl, by rw [HF.out]; exact HR.out, Below.refl _ _⟩
  · have hq : decide (most < 1) = false := by simpa using h1
    by_cases h2 : (l.length : Int) < most
    · have hq2 : decide ((l.length : Int) < most) = true := by simpa using h2
      have HR : Hid (Rd w 2 A l.length (flat rwc l)) := Lib.hid h
      have HF : Hid (first l most = l) := Lib.hid (by unfold first; rw [if_pos (Or.inr h2)])
      clear h h1 h2
      go_enter Try.func19, Try.ntmps19
      go_wp2_with fail
      go_ret
      exact ⟨A, c, by rw [HF.out]; rfl, by rw [HF.out]; exact HR.out, Below.refl _ _⟩
    · have hq2 : decide ((l.length : Int) < most) = false := by simpa using h2
      obtain ⟨m, rfl⟩ : ∃ m : Nat, most = (m : Int) := ⟨most.toNat, by omega⟩
      have hm : m ≤ l.length := by omega
      have HR := Lib.hid (h.take hm)
      have HF : Hid (first l (m : Int) = l.take m) := Lib.hid (by unfold first; rw [if_neg (by omega)]; rfl)
      have HLE : Hid ((l.take m).length = m) := Lib.hid (by rw [List.length_take]; omega)
      have hmc : m ≤ c := by omega
      have hmc2 : (m : Int) ≤ (c : Int) := by omega
      clear h h1 h2
      go_enter Try.func19, Try.ntmps19
      go_wp2_with fail
      go_ret
      exact ⟨A, c, by rw [HF.out, HLE.out]; rfl, by rw [HF.out, HLE.out]; exact HR.out, Below.refl _ _⟩

set_option maxHeartbeats 2000000 in
set_option maxRecDepth 100000 in
theorem last_any {w : World} {A : Option Addr} {c : Nat} {l : List Rw} (h : Rd w 2 A l.length (flat rwc l)) (hl : l.length ≤ 100000) :
    Calls Try.prog 26 #[.slice A l.length c] w (Ans w (.tuple #[rwv (orow l.getLast?), .bool l.getLast?.isSome])) := by
  obtain ⟨W1, hW1⟩ : ∃ W1, W1 = w.alloc (.cells #[.string ⟨#[]⟩, .int .i64 0] 35) := ⟨_, rfl⟩
  have hb1 : Below w.heap.size w W1 := by rw [hW1]; exact (Below.refl _ w).alloc (Nat.le_refl _) _
  have hk1 : Bk W1 w.heap.size 35 #[.string ⟨#[]⟩, .int .i64 0] := by rw [hW1]; exact Bk.new _ _ _
  have HB1 := Lib.hid hb1
  have HK1 := Lib.hid hk1
  have e0 : W1.cell? ⟨w.heap.size, 0, none⟩ = some (.string ⟨#[]⟩) := by rw [hk1.cell]; rfl
  have e1 : W1.cell? ⟨w.heap.size, 1, none⟩ = some (.int .i64 0) := by rw [hk1.cell]; rfl
  have f0 := hk1.frozen 0
  have f1 := hk1.frozen 1
  by_cases hn : l = []
  · subst hn
    clear h hk1 hb1
    go_enter Try.func26, Try.ntmps26
    go_upto_region 1 with fail
    rw [← hW1]
    clear hW1
    go_wp2_with fail
    have hc := (HK1.out.set_ 0 (.string ⟨#[]⟩)).set_ 1 (.int .i64 0)
    have g0 := hc.cell 0
    have g1 := hc.cell 1
    clear e0 e1 f0 f1
    refine bodyPost_ret (v := .tuple #[.agg #[.string ⟨#[]⟩, .int .i64 0], .bool false]) (by simp [results, Try.results26, go_sem, g0, g1]) rfl ⟨rfl, ?_⟩
    exact (HB1.out.setCell (p := ⟨w.heap.size, 0, none⟩) (Nat.le_refl _) _).setCell (p := ⟨w.heap.size, 1, none⟩) (Nat.le_refl _) _
  · have hpos : 0 < l.length := List.length_pos_iff.2 hn
    obtain ⟨N, hN⟩ : ∃ N, N = l.length - 1 := ⟨_, rfl⟩
    have hN1 : N < l.length := by omega
    obtain ⟨ad, hA, hadl, c0, c1⟩ := (h.bel hb1).rw_ hN1
    subst hA
    have hlast : l.getLast? = some l[N] := by rw [List.getLast?_eq_getElem?, ← hN, List.getElem?_eq_getElem hN1]
    have HLA := Lib.hid hlast
    have hLN : l.length = N + 1 := by omega
    rw [hLN]
    have hz : ((N : Int) + 1 == 0) = false := by rw [beq_eq_false_iff_ne]; omega
    have hw1 : IntKind.i64.wrap ((N : Int) + 1 - 1) = (N : Int) := by rw [IntWalk.i64_in _ (by omega)]; omega
    have hw2 : IntKind.i64.wrap (N : Int) = (N : Int) := IntWalk.i64_in _ (by omega)
    generalize l[N] = y at *
    clear h hk1 hb1 hn hpos hN hN1 hlast hLN
    go_enter Try.func26, Try.ntmps26
    go_upto_region 1 with fail
    rw [← hW1]
    clear hW1
    go_wp2_with fail
    have hc := (HK1.out.set_ 0 (.string (ba y.1))).set_ 1 (.int .i64 y.2)
    have g0 := hc.cell 0
    have g1 := hc.cell 1
    clear e0 e1 f0 f1
    refine bodyPost_ret (v := .tuple #[.agg #[.string (ba y.1), .int .i64 y.2], .bool true]) (by simp [results, Try.results26, go_sem, g0, g1]) rfl ⟨by rw [HLA.out]; rfl, ?_⟩
    exact (HB1.out.setCell (p := ⟨w.heap.size, 0, none⟩) (Nat.le_refl _) _).setCell (p := ⟨w.heap.size, 1, none⟩) (Nat.le_refl _) _



end Go.Proofs.Ytaidaohkbbdimab
