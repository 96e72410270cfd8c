/-
  The walks, part P: the plain list's functions: at, under, Under, Above.
-/
import Derived.Test.YtaidaohkbbdimaaWN
namespace Go.Proofs.Ytaidaohkbbdimaa
open Go.RowKit

/-! ### Where a key is or would be -/
def atIx (l : List Rw) (k : Bs) : Nat := (l.takeWhile fun x => Op.bytesLess x.1 k).length
def atOk (l : List Rw) (k : Bs) : Bool := match l[atIx l k]? with
  | some x => x.1 == k
  | none => false
theorem atIx_le (l : List Rw) (k : Bs) : atIx l k ≤ l.length := (List.takeWhile_sublist _).length_le
theorem atIx_cons (x : Rw) (l : List Rw) (k : Bs) : atIx (x :: l) k = if Op.bytesLess x.1 k then atIx l k + 1 else 0 := by
  unfold atIx
  rw [List.takeWhile_cons]
  split <;> simp
theorem atOk_cons (x : Rw) (l : List Rw) (k : Bs) : atOk (x :: l) k = if Op.bytesLess x.1 k then atOk l k else x.1 == k := by
  by_cases h : Op.bytesLess x.1 k
  · simp only [atOk, atIx_cons, if_pos h, List.getElem?_cons_succ]
  · simp only [atOk, atIx_cons, if_neg h, List.getElem?_cons_zero]
/-- The scan's stop. -/
theorem at_is : ∀ (l : List Rw) (k : Bs) (i : Nat), i ≤ l.length → (∀ j (hj : j < l.length), j < i → Op.bytesLess l[j].1 k = true) → (∀ (hi : i < l.length), Op.bytesLess l[i].1 k = false) → atIx l k = i
  | [], k, i, hi, _, _ => by simp at hi; subst hi; rfl
  | x :: l, k, 0, _, _, h2 => by
    have := h2 (by simp)
    rw [atIx_cons, if_neg (by simpa using this)]
  | x :: l, k, i + 1, hi, h1, h2 => by
    have h0 := h1 0 (by simp) (by omega)
    rw [atIx_cons, if_pos (by simpa using h0), at_is l k i (by simpa using hi) (fun j hj hji => by have := h1 (j + 1) (by simpa using hj) (by omega); simpa using this) fun hi => by have := h2 (by simpa using hi); simpa using this]
theorem at_put : ∀ (l : List Rw) (k : Bs) (v : Int), put l k v = l.take (atIx l k) ++ (k, v) :: l.drop (atIx l k + if atOk l k then 1 else 0)
  | [], k, v => by simp [put, atIx]
  | x :: l, k, v => by
    rw [atIx_cons, atOk_cons]
    unfold put
    by_cases h : Op.bytesLess x.1 k
    · rw [if_pos h, if_pos h, if_pos h, at_put l k v]
      simp only [List.take_succ_cons, List.cons_append]
      congr 3
      rw [show atIx l k + 1 + (if atOk l k then 1 else 0) = (atIx l k + if atOk l k then 1 else 0) + 1 by omega, List.drop_succ_cons]
    · rw [if_neg h, if_neg h, if_neg h]
      by_cases h2 : x.1 = k
      · rw [if_pos h2]; simp [h2]
      · rw [if_neg h2]; simp [h2]
theorem at_look : ∀ {l : List Rw}, Srt l → ∀ (k : Bs), look l k = if atOk l k then (l[atIx l k]?).map (·.2) else none
  | [], _, k => by simp [look, atOk, atIx]
  | x :: l, h, k => by
    have h' := srt_cons.1 h
    rw [atIx_cons, atOk_cons]
    by_cases hx : Op.bytesLess x.1 k
    · rw [if_pos hx, if_pos hx, List.getElem?_cons_succ, ← at_look h'.2 k]
      have : x.1 ≠ k := Kl.ne hx
      simp [look, this]
    · rw [if_neg hx, if_neg hx, List.getElem?_cons_zero]
      by_cases h2 : x.1 = k
      · simp [look, h2]
      · have h3 : Kl k x.1 := bl_tri x.1 k (by simpa using hx) h2
        have h4 : look (x :: l) k = none := look_none.2 fun y hy => by
          rcases List.mem_cons.1 hy with rfl | hy
          · exact h2
          · exact (Kl.ne (bl_trans h3 (h'.1 y hy))).symm
        rw [h4]; simp [h2]
theorem at_drop1 : ∀ {l : List Rw}, Srt l → ∀ (k : Bs), drop1 l k = l.take (atIx l k) ++ l.drop (atIx l k + if atOk l k then 1 else 0)
  | [], _, k => by simp [drop1]
  | x :: l, h, k => by
    have h' := srt_cons.1 h
    rw [atIx_cons, atOk_cons]
    by_cases hx : Op.bytesLess x.1 k
    · rw [if_pos hx, if_pos hx]
      have hne : x.1 ≠ k := Kl.ne hx
      have e : drop1 (x :: l) k = x :: drop1 l k := by simp [drop1, hne]
      rw [e, at_drop1 h'.2 k, List.take_succ_cons, List.cons_append, show atIx l k + 1 + (if atOk l k then 1 else 0) = (atIx l k + if atOk l k then 1 else 0) + 1 by omega, List.drop_succ_cons]
    · rw [if_neg hx, if_neg hx]
      by_cases h2 : x.1 = k
      · have hr : ∀ y ∈ l, y.1 ≠ k := fun y hy => by have := Kl.ne (h'.1 y hy); rw [h2] at this; exact this.symm
        have e : drop1 (x :: l) k = drop1 l k := by simp [drop1, h2]
        rw [e, drop1_off hr]; simp [h2]
      · have h3 : Kl k x.1 := bl_tri x.1 k (by simpa using hx) h2
        rw [drop1_off fun y hy => by
          rcases List.mem_cons.1 hy with rfl | hy
          · exact h2
          · exact (Kl.ne (bl_trans h3 (h'.1 y hy))).symm]
        simp [h2]

theorem ba_tl (b : Bs) : (ba b).toList = b := by rw [Lib.toList_data]; exact ba_list b

set_option maxHeartbeats 2000000 in
set_option maxRecDepth 100000 in
theorem at_any {w : World} {A : Option Addr} {c : Nat} {l : List Rw} (k : Bs) (h : Rd w 2 A l.length (flat rwc l)) (hl : l.length ≤ 100000) :
    Calls Try.prog 65 #[.slice A l.length c, .string (ba k)] w (Ans w (.tuple #[.int .i64 (atIx l k), .bool (atOk l k)])) := by
  have HR := Lib.hid h
  obtain ⟨S, hSS⟩ : ∃ S, S = ba k := ⟨_, rfl⟩
  rw [← hSS]
  have HS : Hid (S.toList = k) := Lib.hid (by rw [hSS]; exact ba_tl k)
  clear h hSS
  obtain ⟨L, hL⟩ : ∃ L, L = l.length := ⟨_, rfl⟩
  rw [← hL] at HR hl
  rw [← hL]
  have HL := Lib.hid hL
  clear hL
  go_enter Try.func65, Try.ntmps65
  go_wp2_with fail
  go_loopg [10] L (fun g v10 wr => ∃ (i : Nat), v10 = .int .i64 i ∧ i ≤ L ∧ L - i ≤ g ∧ Below w.heap.size w wr ∧ Hid (∀ j (hj : j < l.length), j < i → Op.bytesLess l[j].1 k = true))
  case atStart => exact ⟨0, rfl, Nat.zero_le _, by omega, Below.refl _ _, Lib.hid (fun j hj h => absurd h (by omega))⟩
  case round =>
    obtain ⟨i, rfl, hiL, hg, hb, HM⟩ := hrel
    by_cases hi : i < L
    · have hi2 : i < l.length := by have := HL.out; omega
      have hlt : decide ((i : Int) < (L : Int)) = true := by simpa using hi
      have hR2 := HR.out.bel hb
      rw [HL.out] at hR2
      obtain ⟨ad, hA, hadl, c0, c1⟩ := hR2.rw_ hi2
      subst hA
      have HZ := Lib.hid (ba_tl l[i].1)
      have hb1 : Below w.heap.size w (wr.alloc (.cells #[.string (ba l[i].1), .int .i64 l[i].2] 28)) := hb.alloc hb.size _
      have HB1 := Lib.hid hb1
      clear hR2 hb1
      cases hk : Op.bytesLess l[i].1 k with
      | true =>
        have HM2 : Hid (∀ j (hj : j < l.length), j < i + 1 → Op.bytesLess l[j].1 k = true) := Lib.hid (fun j hj h => by
          by_cases e : j = i
          · subst e; exact hk
          · exact HM.out j hj (by omega))
        generalize l[i].1 = a at *
        generalize l[i].2 = b at *
        generalize ba a = z at *
        have hbl : Op.bytesLess z.toList S.toList = true := by rw [HZ.out, HS.out]; exact hk
        have hw1 : IntKind.i64.wrap ((i : Int) + 1) = (i : Int) + 1 := IntWalk.i64_in _ (by omega)
        clear hk
        go_wp2_with fail
        go_roundg (L - (i + 1))
        case measure => omega
        case rel => exact ⟨i + 1, by go_num, by omega, Nat.le_refl _, HB1.out, HM2⟩
      | false =>
        have HI : Hid (atIx l k = i) := Lib.hid (at_is l k i (by omega) HM.out fun _ => hk)
        cases he : l[i].1 == k with
        | true =>
          have HO : Hid (atOk l k = true) := Lib.hid (by unfold atOk; rw [HI.out, List.getElem?_eq_getElem hi2]; exact he)
          have he2 : l[i].1 = k := by simpa using he
          generalize l[i].2 = b at *
          have hz2 : (ba l[i].1).toList = S.toList := by rw [ba_tl, HS.out, he2]
          generalize ba l[i].1 = z at *
          have hbl : Op.bytesLess z.toList S.toList = false := by rw [hz2, bl_irrefl]
          rw [hz2] at hbl
          clear hk he he2 HZ
          go_wp2_with fail
          go_quiet (fail)
          go_wp2_with fail
          go_ret2
          exact ⟨by rw [HI.out, HO.out]; rfl, below_drewN HB1.out _⟩
        | false =>
          have HO : Hid (atOk l k = false) := Lib.hid (by unfold atOk; rw [HI.out, List.getElem?_eq_getElem hi2]; exact he)
          have he2 : ¬ l[i].1 = k := by simpa using he
          generalize l[i].2 = b at *
          have hz2 : ¬ (ba l[i].1).toList = S.toList := by rw [ba_tl, HS.out]; exact he2
          have hbl : Op.bytesLess (ba l[i].1).toList S.toList = false := by rw [ba_tl, HS.out]; exact hk
          have hbq : ((ba l[i].1).toList == S.toList) = false := beq_eq_false_iff_ne.2 hz2
          generalize ba l[i].1 = z at *
          clear hk he he2 HZ
          go_wp2_with fail
          go_quiet (fail)
          go_wp2_with fail
          go_ret2
          exact ⟨by rw [HI.out, HO.out]; rfl, below_drewN HB1.out _⟩
    · have hlt : decide ((i : Int) < (L : Int)) = false := by simpa using hi
      have hiL2 : i = L := by omega
      have HI : Hid (atIx l k = L) := Lib.hid (at_is l k L (by have := HL.out; omega) (by rw [← hiL2]; exact HM.out) fun hi => absurd hi (by have := HL.out; omega))
      have HO : Hid (atOk l k = false) := Lib.hid (by unfold atOk; rw [HI.out, List.getElem?_eq_none (by have := HL.out; omega)])
      clear hiL2
      go_wp2_with fail
      go_ret2
      exact ⟨by rw [HI.out, HO.out]; rfl, hb⟩

/-! ### The rows under a text -/
def sel (l : List Rw) (p : Bs) (yes : Bool) : List Rw := l.filter fun r => p.isPrefixOf r.1 == yes
theorem sel_true (l : List Rw) (p : Bs) : sel l p true = und l p := by unfold sel und; simp
theorem sel_false (l : List Rw) (p : Bs) : sel l p false = nund l p := by unfold sel nund; congr 1; funext r; cases p.isPrefixOf r.1 <;> rfl
theorem filter_snoc {l : List Rw} {f : Rw → Bool} {i : Nat} (hi : i < l.length) : (l.take (i + 1)).filter f = (l.take i).filter f ++ if f l[i] then [l[i]] else [] := by
  rw [take_more2 hi, List.filter_append]
  congr 1
  cases h : f l[i] <;> simp [h]

theorem own_cap {w : World} {b : Nat} {e : TypeId} {k : Nat} {A : Option Addr} {n m c : Nat} {xs : List Value} (h : w.ownsRow b e k (.slice A n c) m xs) : n ≤ c ∧ m = n := by
  rcases h.2 with ⟨h, h0⟩ | ⟨g, cap, cur, h, _, _, hnc, _⟩
  · injection h with _ h1 h2
    subst h1; subst h2
    exact ⟨Nat.le_refl _, h0⟩
  · injection h with _ h1 h2
    subst h1; subst h2
    exact ⟨hnc, rfl⟩
/-- A slice is answered that reads as a list, no longer than its capacity. -/
def GivesC (w : World) (l : List Rw) (e : Ending) (w' : World) : Prop :=
  ∃ A c, e = .returned (.slice A l.length c) ∧ Rd w' 2 A l.length (flat rwc l) ∧ Below w.heap.size w w' ∧ l.length ≤ c
theorem GivesC.gives {w w' : World} {l : List Rw} {e : Ending} (h : GivesC w l e w') : Gives rwc 2 w l e w' := by
  obtain ⟨A, c, h1, h2, h3, _⟩ := h
  exact ⟨A, c, h1, h2, h3⟩
theorem Acc.givesC {w0 w : World} {v : Value} {l : List Rw} (h : Acc 28 rwc 2 w0 w v l) : GivesC w0 l (.returned v) w := by
  obtain ⟨A, c, hv⟩ := own_len h.row
  have hr := h.row
  subst hv
  exact ⟨A, c, rfl, Rd.own hr, h.bel, (own_cap hr).1⟩

/-- A row of new blocks is answered. -/
def Owns (w : World) (l : List Rw) (e : Ending) (w' : World) : Prop := ∃ v, e = .returned v ∧ Acc 28 rwc 2 w w' v l

set_option maxHeartbeats 2000000 in
set_option maxRecDepth 100000 in
theorem sunder_own {w : World} {A : Option Addr} {c : Nat} {l : List Rw} (p : Bs) (yes : Bool) (h : Rd w 2 A l.length (flat rwc l)) (hl : l.length ≤ 1000) :
    Calls Try.prog 51 #[.slice A l.length c, .string (ba p), .bool yes] w (Owns w (sel l p yes)) := by
  have HR := Lib.hid h
  obtain ⟨S, hSS⟩ : ∃ S, S = ba p := ⟨_, rfl⟩
  rw [← hSS]
  have HS : Hid (S.data.toList = p) := Lib.hid (by rw [hSS]; exact ba_list p)
  clear h hSS
  obtain ⟨L, hL⟩ : ∃ L, L = l.length := ⟨_, rfl⟩
  rw [← hL] at HR hl
  rw [← hL]
  have HL := Lib.hid hL
  clear hL
  go_enter Try.func51, Try.ntmps51
  go_wp2_with fail
  go_loopg [7, 12] L (fun g v7 v12 wr => ∃ (i : Nat), v12 = .int .i64 i ∧ i ≤ L ∧ L - i ≤ g ∧ Hid (Acc 28 rwc 2 w wr v7 (sel (l.take i) p yes)))
  case atStart => exact ⟨0, rfl, Nat.zero_le _, by omega, Lib.hid (Acc.start (Below.refl _ _))⟩
  case round =>
    obtain ⟨i, rfl, hiL, hg, HA⟩ := hrel
    by_cases hi : i < L
    · have hi2 : i < l.length := by have := HL.out; omega
      have hlt : decide ((i : Int) < (L : Int)) = true := by simpa using hi
      have hR2 := HR.out.bel HA.out.bel
      rw [HL.out] at hR2
      obtain ⟨ad, hA, hadl, c0, c1⟩ := hR2.rw_ hi2
      subst hA
      have hA1 := HA.out.below ((Below.refl _ wr).alloc (Nat.le_refl _) (.cells #[.string (ba l[i].1), .int .i64 l[i].2] 28))
      have hA2 := hA1.below ((Below.refl _ _).alloc (Nat.le_refl _) (.cells #[.string (ba l[i].1), .int .i64 l[i].2] 28))
      have HB2 := Lib.hid (Bk.new (wr.alloc (.cells #[.string (ba l[i].1), .int .i64 l[i].2] 28)) 28 #[.string (ba l[i].1), .int .i64 l[i].2])
      have HLN : Hid ((sel (l.take i) p yes).length + 1 ≤ 100000) := Lib.hid (by have := List.length_filter_le (fun r : Rw => p.isPrefixOf r.1 == yes) (l.take i); have := List.length_take_le i l; unfold sel; omega)
      have HS0 : Hid ((wr.alloc (.cells #[.string (ba l[i].1), .int .i64 l[i].2] 28)).heap.size = wr.heap.size + 1) := Lib.hid (by simp)
      have HA1 := Lib.hid hA1
      have HA2 := Lib.hid hA2
      have hP := hasPrefix_any (ba l[i].1) S (wr.alloc (.cells #[.string (ba l[i].1), .int .i64 l[i].2] 28))
      rw [HS.out, ba_list] at hP
      have hfs := filter_snoc (f := fun r : Rw => p.isPrefixOf r.1 == yes) hi2
      have hw1 : IntKind.i64.wrap ((i : Int) + 1) = (i : Int) + 1 := IntWalk.i64_in _ (by omega)
      clear hR2 hA1 hA2
      by_cases hq : p.isPrefixOf l[i].1 = yes
      · rw [hq] at hP
        have HFS : Hid (sel (l.take (i + 1)) p yes = sel (l.take i) p yes ++ [l[i]]) := Lib.hid (by unfold sel; rw [hfs, hq]; simp)
        have HY : Hid (rwc l[i] = [.string (ba l[i].1), .int .i64 l[i].2]) := Lib.hid rfl
        generalize l[i] = y at *
        clear hq hfs
        go_wp2_with fail
        refine hP.mono ?_
        rintro e w2 ⟨rfl, hw⟩
        subst w2
        rw [HS0.out] at HB2
        go_wp2_with (at_builtin; refine wpList_many rec_row rfl rfl HA2.out.row HA2.out.bel.size HLN.out (by omega) rfl rfl rfl (rd_one (y := y) rfl HB2.out rfl) ?_; intro v' w5 hap)
        have hA5 := HA2.out.app hap
        rw [← HFS.out] at hA5
        have HA5 := Lib.hid hA5
        clear hap hA5
        go_wp2_with fail
        go_roundg (L - (i + 1))
        case measure => omega
        case rel => exact ⟨i + 1, by go_num, by omega, Nat.le_refl _, HA5⟩
      · have hqq : p.isPrefixOf l[i].1 = !yes := by cases h1 : p.isPrefixOf l[i].1 <;> cases yes <;> simp_all
        rw [hqq] at hP
        have HFS : Hid (sel (l.take (i + 1)) p yes = sel (l.take i) p yes) := Lib.hid (by unfold sel; rw [hfs, hqq]; cases yes <;> simp)
        clear hq hqq hfs
        generalize l[i] = y at *
        have hA5 := HA1.out
        rw [← HFS.out] at hA5
        have HA5 := Lib.hid hA5
        clear hA5
        cases yes with
        | true =>
          go_wp2_with fail
          refine hP.mono ?_
          rintro e w2 ⟨rfl, hw⟩
          subst w2
          go_wp2_with fail
          go_roundg (L - (i + 1))
          case measure => omega
          case rel => exact ⟨i + 1, by go_num, by omega, Nat.le_refl _, HA5⟩
        | false =>
          go_wp2_with fail
          refine hP.mono ?_
          rintro e w2 ⟨rfl, hw⟩
          subst w2
          go_wp2_with fail
          go_roundg (L - (i + 1))
          case measure => omega
          case rel => exact ⟨i + 1, by go_num, by omega, Nat.le_refl _, HA5⟩
    · have hlt : decide ((i : Int) < (L : Int)) = false := by simpa using hi
      have HF : Hid (Acc 28 rwc 2 w wr u7 (sel l p yes)) := Lib.hid (by have h := HA.out; rw [List.take_of_length_le (by have := HL.out; omega)] at h; exact h)
      go_wp2_with fail
      go_ret
      exact ⟨_, rfl, HF.out⟩

theorem sunder_any {w : World} {A : Option Addr} {c : Nat} {l : List Rw} (p : Bs) (yes : Bool) (h : Rd w 2 A l.length (flat rwc l)) (hl : l.length ≤ 1000) :
    Calls Try.prog 51 #[.slice A l.length c, .string (ba p), .bool yes] w (Gives rwc 2 w (sel l p yes)) := by
  refine (sunder_own (c := c) p yes h hl).mono ?_
  rintro e w' ⟨v, rfl, ha⟩
  exact ha.gives

set_option maxHeartbeats 1000000 in
theorem sUnder_cap {w : World} {A : Option Addr} {c : Nat} {l : List Rw} (p : Bs) (h : Rd w 2 A l.length (flat rwc l)) (hl : l.length ≤ 1000) :
    Calls Try.prog 29 #[.slice A l.length c, .string (ba p)] w (GivesC w (und l p)) := by
  have hU := sunder_own (c := c) p true h hl
  rw [sel_true] at hU
  have HU := Lib.hid hU
  clear h hU
  go_enter Try.func29, Try.ntmps29
  go_wp2_with fail
  refine HU.out.mono ?_
  rintro e w1 ⟨v1, rfl, ha⟩
  have HA := Lib.hid ha
  clear ha
  go_wp2_with fail
  go_ret
  exact HA.out.givesC
theorem sUnder_any {w : World} {A : Option Addr} {c : Nat} {l : List Rw} (p : Bs) (h : Rd w 2 A l.length (flat rwc l)) (hl : l.length ≤ 1000) :
    Calls Try.prog 29 #[.slice A l.length c, .string (ba p)] w (Gives rwc 2 w (und l p)) := (sUnder_cap p h hl).mono fun _ _ h => h.gives

/-! ### The rows above a text -/
set_option maxHeartbeats 2000000 in
set_option maxRecDepth 100000 in
theorem sAbove_cap {w : World} {A : Option Addr} {c : Nat} {l : List Rw} (p : Bs) (h : Rd w 2 A l.length (flat rwc l)) (hl : l.length ≤ 1000) :
    Calls Try.prog 37 #[.slice A l.length c, .string (ba p)] w (GivesC w (abv l p)) := by
  have HR := Lib.hid h
  obtain ⟨S, hSS⟩ : ∃ S, S = ba p := ⟨_, rfl⟩
  rw [← hSS]
  have HS : Hid (S.data.toList = p) := Lib.hid (by rw [hSS]; exact ba_list p)
  clear h hSS
  obtain ⟨L, hL⟩ : ∃ L, L = l.length := ⟨_, rfl⟩
  rw [← hL] at HR hl
  rw [← hL]
  have HL := Lib.hid hL
  clear hL
  go_enter Try.func37, Try.ntmps37
  go_wp2_with fail
  go_loopg [5, 10] L (fun g v5 v10 wr => ∃ (i : Nat), v10 = .int .i64 i ∧ i ≤ L ∧ L - i ≤ g ∧ Hid (Acc 28 rwc 2 w wr v5 (abv (l.take i) p)))
  case atStart => exact ⟨0, rfl, Nat.zero_le _, by omega, Lib.hid (Acc.start (Below.refl _ _))⟩
  case round =>
    obtain ⟨i, rfl, hiL, hg, HA⟩ := hrel
    by_cases hi : i < L
    · have hi2 : i < l.length := by have := HL.out; omega
      have hlt : decide ((i : Int) < (L : Int)) = true := by simpa using hi
      have hR2 := HR.out.bel HA.out.bel
      rw [HL.out] at hR2
      obtain ⟨ad, hA, hadl, c0, c1⟩ := hR2.rw_ hi2
      subst hA
      have hA1 := HA.out.below ((Below.refl _ wr).alloc (Nat.le_refl _) (.cells #[.string (ba l[i].1), .int .i64 l[i].2] 28))
      have hA2 := hA1.below ((Below.refl _ _).alloc (Nat.le_refl _) (.cells #[.string (ba l[i].1), .int .i64 l[i].2] 28))
      have HB2 := Lib.hid (Bk.new (wr.alloc (.cells #[.string (ba l[i].1), .int .i64 l[i].2] 28)) 28 #[.string (ba l[i].1), .int .i64 l[i].2])
      have HLN : Hid ((abv (l.take i) p).length + 1 ≤ 100000) := Lib.hid (by have := List.length_filter_le (fun r : Rw => r.1.isPrefixOf p) (l.take i); have := List.length_take_le i l; unfold abv; omega)
      have HS0 : Hid ((wr.alloc (.cells #[.string (ba l[i].1), .int .i64 l[i].2] 28)).heap.size = wr.heap.size + 1) := Lib.hid (by simp)
      have HA1 := Lib.hid hA1
      have HA2 := Lib.hid hA2
      have hP := hasPrefix_any S (ba l[i].1) (wr.alloc (.cells #[.string (ba l[i].1), .int .i64 l[i].2] 28))
      rw [HS.out, ba_list] at hP
      have hfs := filter_snoc (f := fun r : Rw => r.1.isPrefixOf p) hi2
      have hw1 : IntKind.i64.wrap ((i : Int) + 1) = (i : Int) + 1 := IntWalk.i64_in _ (by omega)
      clear hR2 hA1 hA2
      cases hq : l[i].1.isPrefixOf p with
      | true =>
        rw [hq] at hP
        have HFS : Hid (abv (l.take (i + 1)) p = abv (l.take i) p ++ [l[i]]) := Lib.hid (by unfold abv; rw [hfs, hq]; simp)
        generalize l[i] = y at *
        clear hq hfs
        go_wp2_with fail
        refine hP.mono ?_
        rintro e w2 ⟨rfl, hw⟩
        subst w2
        rw [HS0.out] at HB2
        go_wp2_with (at_builtin; refine wpList_many rec_row rfl rfl HA2.out.row HA2.out.bel.size HLN.out (by omega) rfl rfl rfl (rd_one (y := y) rfl HB2.out rfl) ?_; intro v' w5 hap)
        have hA5 := HA2.out.app hap
        rw [← HFS.out] at hA5
        have HA5 := Lib.hid hA5
        clear hap hA5
        go_wp2_with fail
        go_roundg (L - (i + 1))
        case measure => omega
        case rel => exact ⟨i + 1, by go_num, by omega, Nat.le_refl _, HA5⟩
      | false =>
        rw [hq] at hP
        have HFS : Hid (abv (l.take (i + 1)) p = abv (l.take i) p) := Lib.hid (by unfold abv; rw [hfs, hq]; simp)
        generalize l[i] = y at *
        have hA5 := HA1.out
        rw [← HFS.out] at hA5
        have HA5 := Lib.hid hA5
        clear hq hfs hA5
        go_wp2_with fail
        refine hP.mono ?_
        rintro e w2 ⟨rfl, hw⟩
        subst w2
        go_wp2_with fail
        go_roundg (L - (i + 1))
        case measure => omega
        case rel => exact ⟨i + 1, by go_num, by omega, Nat.le_refl _, HA5⟩
    · have hlt : decide ((i : Int) < (L : Int)) = false := by simpa using hi
      have HF : Hid (Acc 28 rwc 2 w wr u5 (abv l p)) := Lib.hid (by have h := HA.out; rw [List.take_of_length_le (by have := HL.out; omega)] at h; exact h)
      go_wp2_with fail
      go_ret
      exact HF.out.givesC
theorem sAbove_any {w : World} {A : Option Addr} {c : Nat} {l : List Rw} (p : Bs) (h : Rd w 2 A l.length (flat rwc l)) (hl : l.length ≤ 1000) :
    Calls Try.prog 37 #[.slice A l.length c, .string (ba p)] w (Gives rwc 2 w (abv l p)) := (sAbove_cap p h hl).mono fun _ _ h => h.gives

end Go.Proofs.Ytaidaohkbbdimaa
