/-
  The walks, part A: sort.Search over a closure that only reads; the closures of getEdge, updateEdge and delEdge; isLeaf, HasPrefix, longestPrefix.
-/
import Derived.Test.YtaidaohkbbdimaaMem
import Derived.Test.YtaidaohkbbdimaaProg
import Derived.WalkKit
import Derived.Deep.QuietTactic
import Derived.BigQuiet
import Derived.Deep.LoopGhost
import Derived.WalkLawsBesides
import Derived.WalkSpells
import Derived.Lib.Hide
import Derived.Lib.Strings
import Derived.RegionTactic
import Derived.Outline
namespace Go.Proofs.Ytaidaohkbbdimaa
open Go.RowKit

/-- A function with a body is entered. -/
theorem enters {f : FuncId} {fn : Func} {c : Code} (hf : Try.prog.funcs[f]? = some fn) (hname : (fn.name == "runtime.NumGoroutine") = false) (hb : fn.body = some c) :
    ∀ args w, (callFunc f args).run Try.prog w = .ok (.enter f args) w := by
  intro args w
  have h1 : fn.name ≠ "runtime.NumGoroutine" := by simpa using hname
  simp [callFunc, hf, h1, hb, mark]

/-- What a search's closure says of an edge: its label is not less. -/
def geB (ps : List Pr) (c : UInt8) (i : Nat) : Bool := match ps[i]? with
  | some x => decide (c.toNat ≤ x.1.toNat)
  | none => true

set_option maxHeartbeats 400000 in
theorem closure_get (w : World) (bn bl id g cap len i : Nat) (c d : UInt8) (hi : i < len)
    (hbn : w.cell? ⟨bn, 0, none⟩ = some (.pointer (some ⟨id, 0, none⟩))) (hbl : w.cell? ⟨bl, 0, none⟩ = some (.int .u8 c.toNat))
    (h2 : w.cell? ⟨id, 2, none⟩ = some (.slice (some ⟨g, 0, none⟩) len cap)) (hd : w.cell? ⟨g, i * 2, none⟩ = some (.int .u8 d.toNat)) :
    Calls Try.prog 75 #[.int .i64 i, .pointer (some ⟨bn, 0, none⟩), .pointer (some ⟨bl, 0, none⟩)] w fun e w' => e = .returned (.bool (decide (c.toNat ≤ d.toNat))) ∧ ∃ q, w' = w.drewN q := by
  go_enter Try.func75, Try.ntmps75
  go_wp2
  go_quiet (fail)
  go_wp2
  go_ret
  exact ⟨rfl, _, rfl⟩

set_option maxHeartbeats 400000 in
theorem closure_upd (w : World) (bn bl id g cap len i : Nat) (c d : UInt8) (hi : i < len)
    (hbn : w.cell? ⟨bn, 0, none⟩ = some (.pointer (some ⟨id, 0, none⟩))) (hbl : w.cell? ⟨bl, 0, none⟩ = some (.int .u8 c.toNat))
    (h2 : w.cell? ⟨id, 2, none⟩ = some (.slice (some ⟨g, 0, none⟩) len cap)) (hd : w.cell? ⟨g, i * 2, none⟩ = some (.int .u8 d.toNat)) :
    Calls Try.prog 79 #[.int .i64 i, .pointer (some ⟨bn, 0, none⟩), .pointer (some ⟨bl, 0, none⟩)] w fun e w' => e = .returned (.bool (decide (c.toNat ≤ d.toNat))) ∧ ∃ q, w' = w.drewN q := by
  go_enter Try.func79, Try.ntmps79
  go_wp2
  go_quiet (fail)
  go_wp2
  go_ret
  exact ⟨rfl, _, rfl⟩

set_option maxHeartbeats 400000 in
theorem closure_del (w : World) (bn bl id g cap len i : Nat) (c d : UInt8) (hi : i < len)
    (hbn : w.cell? ⟨bn, 0, none⟩ = some (.pointer (some ⟨id, 0, none⟩))) (hbl : w.cell? ⟨bl, 0, none⟩ = some (.int .u8 c.toNat))
    (h2 : w.cell? ⟨id, 2, none⟩ = some (.slice (some ⟨g, 0, none⟩) len cap)) (hd : w.cell? ⟨g, i * 2, none⟩ = some (.int .u8 d.toNat)) :
    Calls Try.prog 80 #[.int .i64 i, .pointer (some ⟨bn, 0, none⟩), .pointer (some ⟨bl, 0, none⟩)] w fun e w' => e = .returned (.bool (decide (c.toNat ≤ d.toNat))) ∧ ∃ q, w' = w.drewN q := by
  go_enter Try.func80, Try.ntmps80
  go_wp2
  go_quiet (fail)
  go_wp2
  go_ret
  exact ⟨rfl, _, rfl⟩

/-- What a search returns: how many places are not yet true. -/
def Searched (n : Nat) (p : Nat → Bool) (w : World) (e : Ending) (w' : World) : Prop :=
  ∃ k q : Nat, k ≤ n ∧ (∀ t, t < k → p t = false) ∧ (∀ t, k ≤ t → t < n → p t = true) ∧ e = .returned (.int .i64 k) ∧ w' = w.drewN q

set_option maxHeartbeats 1000000 in
/-- sort.Search over a closure of two captured variables that only reads. -/
theorem search_any (g bn bl n : Nat) (p : Nat → Bool) (w : World) (eg : ∀ args w, (callFunc g args).run Try.prog w = .ok (.enter g args) w) (hn : n ≤ 1000)
    (hf : ∀ (q i : Nat), i < n → Calls Try.prog g #[.int .i64 i, .pointer (some ⟨bn, 0, none⟩), .pointer (some ⟨bl, 0, none⟩)] (w.drewN q) fun e w' => e = .returned (.bool (p i)) ∧ ∃ q', w' = (w.drewN q).drewN q')
    (hmono : ∀ a b, a ≤ b → b < n → p a = true → p b = true) :
    Calls Try.prog 74 #[.int .i64 n, .func (.func g) #[] #[.pointer (some ⟨bn, 0, none⟩), .pointer (some ⟨bl, 0, none⟩)]] w (Searched n p w) := by
  have HF := Lib.hid hf
  have M := Lib.hid hmono
  clear hf hmono
  go_enter Try.func74, Try.ntmps74
  go_wp2
  go_loopg [5, 6] n (fun kx s5 s6 wr => ∃ lo hi q : Nat, s5 = .int .i64 lo ∧ s6 = .int .i64 hi ∧ lo ≤ hi ∧ hi ≤ n ∧ hi - lo ≤ kx ∧ wr = w.drewN q ∧
    Hid ((∀ t, t < lo → p t = false) ∧ (∀ t, hi ≤ t → t < n → p t = true)))
  case atStart => exact ⟨0, n, 0, rfl, rfl, Nat.zero_le _, Nat.le_refl _, by omega, rfl, (⟨fun t ht => absurd ht (Nat.not_lt_zero _), fun t h1 h2 => by omega⟩ : (∀ t, t < 0 → p t = false) ∧ (∀ t, n ≤ t → t < n → p t = true))⟩
  case round =>
    obtain ⟨lo, hi, q, rfl, rfl, hlh, hin, hg, rfl, I⟩ := hrel
    by_cases hlt : lo < hi
    · have hc := HF.out q ((lo + hi) / 2) (by omega)
      rw [show (((lo + hi) / 2 : Nat) : Int) = ((lo : Int) + (hi : Int)) / 2 by omega] at hc
      cases hp : p ((lo + hi) / 2) <;> rw [hp] at hc
      · have HP := Lib.hid hp
        clear hp
        go_wp2_with fail
        refine hc.mono ?_
        clear hc
        rintro e w' ⟨rfl, nq, rfl⟩
        go_wp2_with fail
        go_roundg (hi - ((lo + hi) / 2 + 1))
        case measure => omega
        case rel =>
          have I2 : Hid ((∀ t, t < (lo + hi) / 2 + 1 → p t = false) ∧ (∀ t, hi ≤ t → t < n → p t = true)) := ⟨fun t ht => (by
            cases h : p t with
            | false => rfl
            | true => have := M.out t ((lo + hi) / 2) (by omega) (by omega) h; rw [HP.out] at this; cases this), I.out.2⟩
          exact ⟨(lo + hi) / 2 + 1, hi, q + nq, by rw [show ((lo : Int) + (hi : Int)) / 2 + 1 = (((lo + hi) / 2 + 1 : Nat) : Int) by omega], rfl, by omega, hin, Nat.le_refl _, by rw [← World.drewN_drewN], I2⟩
      · have HP := Lib.hid hp
        clear hp
        go_wp2_with fail
        refine hc.mono ?_
        clear hc
        rintro e w' ⟨rfl, nq, rfl⟩
        go_wp2_with fail
        go_roundg ((lo + hi) / 2 - lo)
        case measure => omega
        case rel =>
          have I2 : Hid ((∀ t, t < lo → p t = false) ∧ (∀ t, (lo + hi) / 2 ≤ t → t < n → p t = true)) := ⟨I.out.1, fun t ht htn => M.out ((lo + hi) / 2) t ht htn HP.out⟩
          exact ⟨lo, (lo + hi) / 2, q + nq, rfl, by rw [show ((lo : Int) + (hi : Int)) / 2 = (((lo + hi) / 2 : Nat) : Int) by omega], by omega, by omega, Nat.le_refl _, by rw [← World.drewN_drewN], I2⟩
    · obtain rfl : hi = lo := by omega
      go_wp2
      go_ret
      exact ⟨hi, q, hin, I.out.1, I.out.2, rfl, rfl⟩


theorem asc_ge : ∀ (ps : List Pr), Asc ps → ∀ (i : Nat) (h : i < ps.length), i ≤ ps[i].1.toNat
  | ps, ha, 0, _ => Nat.zero_le _
  | ps, ha, i + 1, h => by
    have h1 := asc_ge ps ha i (by omega)
    have h2 : ps[i].1 < ps[i + 1].1 := List.pairwise_iff_getElem.1 ha i (i + 1) (by omega) h (by omega)
    have h3 : ps[i].1.toNat < ps[i + 1].1.toNat := h2
    omega
theorem asc_len {ps : List Pr} (ha : Asc ps) : ps.length ≤ 256 := by
  by_cases h : ps.length ≤ 256
  · exact h
  · have h1 := asc_ge ps ha 256 (by omega)
    have h2 := ps[256].1.toNat_lt
    omega
theorem geB_mono {ps : List Pr} (ha : Asc ps) (c : UInt8) (a b : Nat) (hab : a ≤ b) (hb : b < ps.length) (h : geB ps c a = true) : geB ps c b = true := by
  unfold geB at *
  rw [List.getElem?_eq_getElem (by omega)] at h ⊢
  simp only [decide_eq_true_eq] at *
  rcases Nat.eq_or_lt_of_le hab with rfl | hlt
  · exact h
  · have h2 : ps[a].1 < ps[b].1 := List.pairwise_iff_getElem.1 ha a b (by omega) hb hlt
    have h3 : ps[a].1.toNat < ps[b].1.toNat := h2
    omega
/-- The place that a search finds. -/
theorem search_ix {ps : List Pr} {c : UInt8} {k : Nat} (ha : Asc ps) (hk : k ≤ ps.length) (h1 : ∀ t, t < k → geB ps c t = false) (h2 : ∀ t, k ≤ t → t < ps.length → geB ps c t = true) : k = ix ps c := by
  have hx := ix_le ps c
  have below : ∀ (t : Nat) (ht : t < ps.length), geB ps c t = false → ps[t].1 < c := fun t ht h => by
    unfold geB at h
    rw [List.getElem?_eq_getElem ht] at h
    simp only [decide_eq_false_iff_not] at h
    exact show ps[t].1.toNat < c.toNat by omega
  have above : ∀ (t : Nat) (ht : t < ps.length), geB ps c t = true → ¬ ps[t].1 < c := fun t ht h h3 => by
    unfold geB at h
    rw [List.getElem?_eq_getElem ht] at h
    simp only [decide_eq_true_eq] at h
    have h4 : ps[t].1.toNat < c.toNat := h3
    omega
  rcases Nat.lt_trichotomy k (ix ps c) with h | h | h
  · exact absurd (ix_below ps c k (by omega) h) (above k (by omega) (h2 k (Nat.le_refl _) (by omega)))
  · exact h
  · exact absurd (below (ix ps c) (by omega) (h1 _ h)) (ix_above ps c ha (ix ps c) (by omega) (Nat.le_refl _))

theorem below_drewN {B : Nat} {a w : World} (h : Below B a w) (n : Nat) : Below B a (w.drewN n) := ⟨h.os, h.tape, h.output, h.size, h.block⟩

def optp : Option Nat → Value
  | none => .pointer none
  | some i => .pointer (some ⟨i, 0, none⟩)

/-- A row of edges: its cells one by one. -/
theorem row_cells {w : World} {ev : Value} {ps : List Pr} (h : w.ownsRow 0 99 2 ev ps.length (prCells ps)) :
    (ev = .slice none 0 0 ∧ ps = []) ∨ ∃ g cap, ev = .slice (some ⟨g, 0, none⟩) ps.length cap ∧ ps.length ≤ cap ∧ g < w.heap.size ∧
      (∀ (i : Nat) (hi : i < ps.length), w.cell? ⟨g, i * 2, none⟩ = some (.int .u8 ps[i].1.toNat) ∧ w.cell? ⟨g, i * 2 + 1, none⟩ = some (.pointer (some ⟨ps[i].2, 0, none⟩))) := by
  rcases h.2 with ⟨h1, h2⟩ | ⟨g, cap, cur, rfl, _, hg, hnc, _, _, _⟩
  · exact Or.inl ⟨h1, List.eq_nil_of_length_eq_zero h2⟩
  · refine Or.inr ⟨g, cap, rfl, hnc, (Array.getElem?_eq_some_iff.1 hg).1, fun i hi => ⟨?_, ?_⟩⟩
    · rw [h.cellAt (i * 2) (by omega), Nat.mul_comm]; exact prCells_lab ps i hi
    · rw [h.cellAt (i * 2 + 1) (by omega), Nat.mul_comm]; exact prCells_ptr ps i hi

set_option maxHeartbeats 1000000 in
theorem getEdge_any {w : World} {id : Nat} {lf : Option Lv} {pre : ByteArray} {ev : Value} {ps : List Pr} (c : UInt8) (hN : NdOk w id lf pre ev ps) (ha : Asc ps) :
    Calls Try.prog 64 #[.pointer (some ⟨id, 0, none⟩), .int .u8 c.toNat] w fun e w' => e = .returned (optp (prFind ps c)) ∧ Below w.heap.size w w' := by
  have hl := asc_len ha
  have hid := hN.blk.lt
  have hc2 : w.cell? ⟨id, 2, none⟩ = some ev := by rw [hN.blk.cell]; rfl
  obtain ⟨W, hW⟩ : ∃ W, W = (w.alloc (.cells #[.pointer (some ⟨id, 0, none⟩)] 80)).alloc (.cells #[.int .u8 c.toNat] 5) := ⟨_, rfl⟩
  have hbW : Below w.heap.size w W := by rw [hW]; exact ((Below.refl _ _).alloc (Nat.le_refl _) _).alloc (by simp) _
  have k0 : W.cell? ⟨w.heap.size, 0, none⟩ = some (.pointer (some ⟨id, 0, none⟩)) := by rw [hW, Bk.cell ((Bk.new w _ _).alloc _)]; rfl
  have k1 : W.cell? ⟨w.heap.size + 1, 0, none⟩ = some (.int .u8 c.toNat) := by
    have := (Bk.new (w.alloc (.cells #[.pointer (some ⟨id, 0, none⟩)] 80)) 5 #[.int .u8 c.toNat]).cell 0
    rw [World.size_alloc] at this; rw [hW, this]; rfl
  have k2 : W.cell? ⟨id, 2, none⟩ = some ev := (hbW.cell (p := ⟨id, 2, none⟩) hid).trans hc2
  rcases row_cells hN.row with ⟨rfl, rfl⟩ | ⟨g, cap, rfl, hcap, hg, hcs⟩
  · have hS : Calls Try.prog 74 #[.int .i64 0, .func (.func 75) #[] #[.pointer (some ⟨w.heap.size, 0, none⟩), .pointer (some ⟨w.heap.size + 1, 0, none⟩)]] W (Searched 0 (geB [] c) W) :=
      search_any _ _ _ 0 _ _ (enters Try.func75 (by kernel_rfl) rfl) (by omega) (fun q i hi => by omega) (fun a b hab hb h => by omega)
    go_enter Try.func64, Try.ntmps64
    go_wp2_with fail
    rw [← hW]
    refine hS.mono ?_
    clear hS
    rintro e w' ⟨k, q, hk, _, _, rfl, rfl⟩
    obtain rfl : k = 0 := by omega
    clear hW
    go_wp2_with fail
    go_quiet (fail)
    go_wp2_with fail
    go_ret
    exact ⟨rfl, below_drewN (below_drewN hbW _) _⟩
  · have k3 : ∀ (i : Nat) (hi : i < ps.length), W.cell? ⟨g, i * 2, none⟩ = some (.int .u8 ps[i].1.toNat) ∧ W.cell? ⟨g, i * 2 + 1, none⟩ = some (.pointer (some ⟨ps[i].2, 0, none⟩)) := fun i hi =>
      ⟨(hbW.cell (p := ⟨g, i * 2, none⟩) hg).trans (hcs i hi).1, (hbW.cell (p := ⟨g, i * 2 + 1, none⟩) hg).trans (hcs i hi).2⟩
    have hS : Calls Try.prog 74 #[.int .i64 ps.length, .func (.func 75) #[] #[.pointer (some ⟨w.heap.size, 0, none⟩), .pointer (some ⟨w.heap.size + 1, 0, none⟩)]] W (Searched ps.length (geB ps c) W) := by
      refine search_any _ _ _ _ _ _ (enters Try.func75 (by kernel_rfl) rfl) (by omega) (fun q i hi => ?_) (fun a b hab hb h => geB_mono ha c a b hab hb h)
      have := closure_get (W.drewN q) w.heap.size (w.heap.size + 1) id g cap ps.length i c ps[i].1 hi k0 k1 k2 (k3 i hi).1
      unfold geB
      rw [List.getElem?_eq_getElem hi]
      exact this
    clear hcs hN
    go_enter Try.func64, Try.ntmps64
    go_wp2_with fail
    rw [← hW]
    refine hS.mono ?_
    clear hS
    rintro e w' ⟨k, q, hk, hlo, hhi, rfl, rfl⟩
    obtain rfl := search_ix ha hk hlo hhi
    clear hlo hhi hW hc2
    go_wp2_with fail
    cases hf : prFind ps c with
    | some i =>
      obtain ⟨hlt, he⟩ := prFind_some ha hf
      obtain ⟨k4, k5⟩ := k3 (ix ps c) hlt
      rw [he] at k4 k5
      have HF := Lib.hid hf
      clear k3 he hf hk
      generalize ix ps c = k at *
      have hd : decide ((k : Int) < (ps.length : Int)) = true := by simpa using hlt
      go_quiet (fail)
      go_wp2_with fail
      go_ret
      exact ⟨by rw [HF.out]; rfl, below_drewN hbW _⟩
    | none =>
      by_cases hlt : ix ps c < ps.length
      · have hne := prFind_none hf hlt
        obtain ⟨k4, k5⟩ := k3 (ix ps c) hlt
        have hb : ((ps[ix ps c].1.toNat : Int) == (c.toNat : Int)) = false := by
          rw [beq_eq_false_iff_ne]
          intro e
          exact hne (UInt8.toNat_inj.1 (by omega))
        generalize ps[ix ps c].1.toNat = x at *
        have HF := Lib.hid hf
        clear k3 hf hk hne k5
        generalize ix ps c = k at *
        have hd : decide ((k : Int) < (ps.length : Int)) = true := by simpa using hlt
        go_quiet (fail)
        go_wp2_with fail
        go_ret
        exact ⟨by rw [HF.out]; rfl, below_drewN (below_drewN hbW _) _⟩
      · have HF := Lib.hid hf
        clear k3 hf
        generalize ix ps c = k at *
        have hd : decide ((k : Int) < (ps.length : Int)) = false := by simpa using hlt
        go_quiet (fail)
        go_wp2_with fail
        go_ret
        exact ⟨by rw [HF.out]; rfl, below_drewN (below_drewN hbW _) _⟩


set_option maxHeartbeats 400000 in
theorem isLeaf_any {w : World} {id : Nat} {lf : Option Lv} (h0 : w.cell? ⟨id, 0, none⟩ = some (lptr lf)) :
    Calls Try.prog 63 #[.pointer (some ⟨id, 0, none⟩)] w fun e w' => e = .returned (.bool lf.isSome) ∧ w' = w := by
  cases lf with
  | none =>
    have h0' : w.cell? ⟨id, 0, none⟩ = some (.pointer none) := h0
    clear h0
    go_enter Try.func63, Try.ntmps63
    go_wp2
    go_ret
    exact ⟨rfl, rfl⟩
  | some l =>
    have h0' : w.cell? ⟨id, 0, none⟩ = some (.pointer (some ⟨l.id, 0, none⟩)) := h0
    clear h0
    go_enter Try.func63, Try.ntmps63
    go_wp2
    go_ret
    exact ⟨rfl, rfl⟩

theorem pfx_take (p s : Bs) (h : p.length ≤ s.length) : (s.take p.length == p) = p.isPrefixOf s := by
  rw [Bool.eq_iff_iff, beq_iff_eq, pfx_iff]
  constructor
  · intro e
    exact ⟨s.drop p.length, by
      have := List.take_append_drop p.length s
      rw [e] at this; exact this.symm⟩
  · rintro ⟨u, rfl⟩
    simp
theorem pfx_longer {p s : Bs} (h : ¬ p.length ≤ s.length) : p.isPrefixOf s = false := by
  rw [Bool.eq_false_iff]
  intro e
  obtain ⟨u, rfl⟩ := pfx_iff.1 e
  simp at h
theorem ba_len (s : ByteArray) : s.data.toList.length = s.size := by simp

set_option maxHeartbeats 400000 in
theorem hasPrefix_any (s p : ByteArray) (w : World) :
    Calls Try.prog 38 #[.string s, .string p] w fun e w' => e = .returned (.bool (p.data.toList.isPrefixOf s.data.toList)) ∧ w' = w := by
  by_cases h : p.size ≤ s.size
  · have hr : ((s.extract 0 p.size).toList == p.toList) = p.data.toList.isPrefixOf s.data.toList := by
      rw [← pfx_take _ _ (by rw [ba_len, ba_len]; exact h), Lib.toList_data, Lib.toList_data, Lib.extract_data]
      simp
    have HR := Lib.hid hr
    clear hr
    go_enter Try.func38, Try.ntmps38
    go_wp2
    go_ret
    exact ⟨by rw [← HR.out]; rfl, rfl⟩
  · have hr := pfx_longer (p := p.data.toList) (s := s.data.toList) (by rw [ba_len, ba_len]; exact h)
    have HR := Lib.hid hr
    have hd : decide ((p.size : Int) ≤ (s.size : Int)) = false := by simpa using h
    clear hr
    go_enter Try.func38, Try.ntmps38
    go_wp2
    go_ret
    exact ⟨by rw [HR.out]; rfl, rfl⟩

theorem lcp_is : ∀ (k : Nat) (s p : Bs), k ≤ s.length → k ≤ p.length → s.take k = p.take k → (k = s.length ∨ k = p.length ∨ s[k]? ≠ p[k]?) → lcp s p = k
  | 0, [], _, _, _, _, _ => by simp [lcp]
  | 0, _ :: _, [], _, _, _, _ => by simp [lcp]
  | 0, a :: s, b :: p, _, _, _, h => by
    have : a ≠ b := by
      rintro rfl
      rcases h with h | h | h <;> simp at h
    simp [lcp, this]
  | k + 1, [], _, h, _, _, _ => by simp at h
  | k + 1, _ :: _, [], _, h, _, _ => by simp at h
  | k + 1, a :: s, b :: p, h1, h2, h3, h4 => by
    simp only [List.take_succ_cons, List.cons.injEq] at h3
    obtain ⟨rfl, h3⟩ := h3
    have := lcp_is k s p (by simpa using h1) (by simpa using h2) h3 (by simpa using h4)
    simp [lcp, this]
theorem ba_get (s : ByteArray) (k : Nat) (h : k < s.size) : s.data.toList[k]? = some s[k] := by
  rw [List.getElem?_eq_getElem (by rw [ba_len]; exact h)]; rfl
theorem take_more {s p : Bs} {k : Nat} {x : UInt8} (h : s.take k = p.take k) (h1 : s[k]? = some x) (h2 : p[k]? = some x) : s.take (k + 1) = p.take (k + 1) := by
  rw [List.take_add_one, List.take_add_one, h, h1, h2]

set_option maxHeartbeats 2000000 in
theorem longestPrefix_any (s p : ByteArray) (w : World) (hs : s.size ≤ 1000) (hp : p.size ≤ 1000) :
    Calls Try.prog 69 #[.string s, .string p] w fun e w' => e = .returned (.int .i64 (lcp s.data.toList p.data.toList)) ∧ ∃ q, w' = w.drewN q := by
  go_enter Try.func69, Try.ntmps69
  go_wp2
  all_goals
    go_loopw [7] (fun v wr => ∃ k q : Nat, k ≤ s.size ∧ k ≤ p.size ∧ v = .int .i64 k ∧ wr = w.drewN q ∧ Hid (s.data.toList.take k = p.data.toList.take k)) (fun v _ => s.size - (intOf v).toNat)
    case atStart => exact ⟨0, 0, by omega, by omega, rfl, rfl, rfl⟩
    case round =>
      obtain ⟨k, q, hk1, hk2, rfl, rfl, HT⟩ := hrel
      by_cases h1 : k < s.size
      · by_cases h2 : k < p.size
        · have g1 := ba_get s k h1
          have g2 := ba_get p k h2
          by_cases he : s[k] = p[k]
          · have HT2 : Hid (s.data.toList.take (k + 1) = p.data.toList.take (k + 1)) := take_more HT.out g1 (by rw [g2, he])
            have hb : ((s[k].toNat : Int) != (p[k].toNat : Int)) = false := by rw [he]; simp
            clear g1 g2 he
            go_wp2
            go_quiet (fail)
            go_wp2
            go_roundw
            case rel => exact ⟨k + 1, _, by omega, by omega, by go_num, rfl, HT2⟩
            case measure => simp [intOf]; omega
          · have HL := Lib.hid (lcp_is k _ _ (by rw [ba_len]; omega) (by rw [ba_len]; omega) HT.out (Or.inr (Or.inr (by rw [g1, g2]; simpa using he))))
            have hb : ((s[k].toNat : Int) != (p[k].toNat : Int)) = true := by
              rw [bne_iff_ne]
              intro e
              exact he (UInt8.toNat_inj.1 (by omega))
            clear g1 g2 he
            go_wp2
            go_quiet (fail)
            go_wp2
            go_ret
            exact ⟨by rw [HL.out]; rfl, _, World.drewN_drewN _ _ _⟩
        · have HL := Lib.hid (lcp_is k _ _ (by rw [ba_len]; omega) (by rw [ba_len]; omega) HT.out (Or.inr (Or.inl (by rw [ba_len]; omega))))
          first
            | (exfalso; omega)
            | (go_wp2; go_ret; exact ⟨by rw [HL.out]; rfl, _, rfl⟩)
      · have HL := Lib.hid (lcp_is k _ _ (by rw [ba_len]; omega) (by rw [ba_len]; omega) HT.out (Or.inl (by rw [ba_len]; omega)))
        first
          | (exfalso; omega)
          | (go_wp2; go_ret; exact ⟨by rw [HL.out]; rfl, _, rfl⟩)

end Go.Proofs.Ytaidaohkbbdimaa
