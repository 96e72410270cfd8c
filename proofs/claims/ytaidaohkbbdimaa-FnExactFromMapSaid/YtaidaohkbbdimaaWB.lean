/-
  The walks, part B: sort.Sort over a row of edges: Len, Less, Swap; insertionSort, siftDown, heapSort.
  The walks, part B2: sort.Sort over a row of edges: siftDown, heapSort, reverseRange.
  The walks, part B3: sort.Sort over a row of edges: heapSort, reverseRange, partialInsertionSort.
  The walks, part B4: sort.Sort over a row of edges: reverseRange, partialInsertionSort.
-/
import Derived.Test.YtaidaohkbbdimaaWA
import Derived.Sort.AssemblyPlain
import Derived.Deep.DeepCutAuto
namespace Go.Proofs.Ytaidaohkbbdimaa
open Go.RowKit
open Go.Sort (swp PermIn SortedIn)

/-- The order of edges. -/
def ltP (x y : Pr) : Bool := decide (x.1.toNat < y.1.toNat)

/-- The world W is w0 with the row g holding the edges d (and sp behind them); other blocks of w0 are as they were. -/
structure SS (g : Nat) (sp : List Value) (w0 : World) (d : Array Pr) (W : World) : Prop where
  row : Bk W g 99 (prCells d.toList ++ sp).toArray
  rest : Mut w0 W [g]

theorem SS.drewN {g : Nat} {sp : List Value} {w0 W : World} {d : Array Pr} (h : SS g sp w0 d W) (q : Nat) : SS g sp w0 d (W.drewN q) := ⟨h.row.drewN q, h.rest.drewN q⟩
theorem SS.lab {g : Nat} {sp : List Value} {w0 W : World} {d : Array Pr} (h : SS g sp w0 d W) {i : Nat} (hi : i < d.size) : W.cell? ⟨g, i * 2, none⟩ = some (.int .u8 d[i].1.toNat) := by
  have := prCells_lab d.toList i (by simpa using hi)
  rw [h.row.cell, List.getElem?_toArray, List.getElem?_append_left (by rw [len_prCells]; simp; omega), Nat.mul_comm, this]
  simp
theorem SS.ptr {g : Nat} {sp : List Value} {w0 W : World} {d : Array Pr} (h : SS g sp w0 d W) {i : Nat} (hi : i < d.size) : W.cell? ⟨g, i * 2 + 1, none⟩ = some (.pointer (some ⟨d[i].2, 0, none⟩)) := by
  have := prCells_ptr d.toList i (by simpa using hi)
  rw [h.row.cell, List.getElem?_toArray, List.getElem?_append_left (by rw [len_prCells]; simp; omega), Nat.mul_comm, this]
  simp

set_option maxHeartbeats 400000 in
theorem less_any {g : Nat} {sp : List Value} {w0 W : World} {d : Array Pr} (cap : Nat) (h : SS g sp w0 d W) {i j : Nat} (hi : i < d.size) (hj : j < d.size) :
    Calls Try.prog 120 #[.slice (some ⟨g, 0, none⟩) d.size cap, .int .i64 i, .int .i64 j] W fun e w' => e = .returned (.bool (ltP d[i] d[j])) ∧ ∃ q, w' = W.drewN q := by
  have k1 := h.lab hi
  have k2 := h.lab hj
  have hlt : ltP d[i] d[j] = decide (d[i].1.toNat < d[j].1.toNat) := rfl
  rw [hlt]
  generalize d[i].1.toNat = x at *
  generalize d[j].1.toNat = y at *
  clear hlt h
  have hi' : (i : Int) < (d.size : Int) := by omega
  have hj' : (j : Int) < (d.size : Int) := by omega
  go_enter Try.func120, Try.ntmps120
  go_wp2
  go_quiet (fail)
  go_wp2
  go_ret
  exact ⟨rfl, _, rfl⟩

theorem prCells_set : ∀ (l : List Pr) (i : Nat) (x : Pr), i < l.length → prCells (l.set i x) = ((prCells l).set (i * 2) (.int .u8 x.1.toNat)).set (i * 2 + 1) (.pointer (some ⟨x.2, 0, none⟩))
  | [], _, _, h => by simp at h
  | y :: r, 0, x, _ => by simp [prCells]
  | y :: r, i + 1, x, h => by
    have := prCells_set r i x (by simpa using h)
    rw [show (i + 1) * 2 = i * 2 + 1 + 1 by omega]
    simp [prCells, this]

theorem SS.put {g : Nat} {sp : List Value} {w0 W : World} {d : Array Pr} (h : SS g sp w0 d W) {i : Nat} (hi : i < d.size) (x : Pr) :
    SS g sp w0 (d.setIfInBounds i x) ((W.setCell ⟨g, i * 2, none⟩ (.int .u8 x.1.toNat)).setCell ⟨g, i * 2 + 1, none⟩ (.pointer (some ⟨x.2, 0, none⟩))) := by
  refine ⟨?_, (h.rest.setCell (Or.inl (by simp)) _).setCell (Or.inl (by simp)) _⟩
  have := (h.row.set_ (i * 2) (.int .u8 x.1.toNat)).set_ (i * 2 + 1) (.pointer (some ⟨x.2, 0, none⟩))
  have e : (prCells (d.setIfInBounds i x).toList ++ sp).toArray = ((prCells d.toList ++ sp).toArray.setIfInBounds (i * 2) (.int .u8 x.1.toNat)).setIfInBounds (i * 2 + 1) (.pointer (some ⟨x.2, 0, none⟩)) := by
    have hl : (prCells d.toList).length = d.size * 2 := by rw [len_prCells]; simp
    simp only [List.setIfInBounds_toArray, Array.toList_setIfInBounds]
    rw [prCells_set _ _ _ (by simpa using hi), List.set_append_left _ _ (by omega), List.set_append_left _ _ (by simp; omega)]
  rw [e]; exact this

set_option maxHeartbeats 1000000 in
set_option maxRecDepth 100000 in
theorem swap_any {g : Nat} {sp : List Value} {w0 W : World} {d : Array Pr} (cap : Nat) (h : SS g sp w0 d W) {i j : Nat} (hi : i < d.size) (hj : j < d.size) :
    Calls Try.prog 121 #[.slice (some ⟨g, 0, none⟩) d.size cap, .int .i64 i, .int .i64 j] W fun e w' => e = .returned (.tuple #[]) ∧ SS g sp w0 (swp d i j) w' := by
  have k1 := h.lab hi
  have k2 := h.lab hj
  have k3 := h.ptr hi
  have k4 := h.ptr hj
  have f1 := h.row.frozen (i * 2)
  have f2 := h.row.frozen (i * 2 + 1)
  have f3 := h.row.frozen (j * 2)
  have f4 := h.row.frozen (j * 2 + 1)
  have hi' : (i : Int) < (d.size : Int) := by omega
  have hj' : (j : Int) < (d.size : Int) := by omega
  have HS := Lib.hid h
  clear h
  generalize hx : d[i] = x at *
  generalize hy : d[j] = y at *
  have fin : SS g sp w0 (swp d i j) ((((W.setCell ⟨g, i * 2, none⟩ (.int .u8 y.1.toNat)).setCell ⟨g, i * 2 + 1, none⟩ (.pointer (some ⟨y.2, 0, none⟩))).setCell ⟨g, j * 2, none⟩ (.int .u8 x.1.toNat)).setCell ⟨g, j * 2 + 1, none⟩ (.pointer (some ⟨x.2, 0, none⟩))).drew := by
    have := ((HS.out.put hi y).put (i := j) (by simpa using hj) x).drewN 1
    unfold swp
    rw [getElem!_pos d i hi, getElem!_pos d j hj, hx, hy]
    exact this
  by_cases hij : i = j
  · subst hij
    obtain rfl : x = y := by rw [← hx, ← hy]
    clear hx hy HS
    go_enter Try.func121, Try.ntmps121
    go_wp2
    go_region
    go_end0
    exact ⟨rfl, fin⟩
  · clear hx hy HS
    have hij2 : ¬ i * 2 = j * 2 := by omega
    have hij3 : ¬ j * 2 = i * 2 := by omega
    go_enter Try.func121, Try.ntmps121
    go_wp2
    go_region
    go_end0
    exact ⟨rfl, fin⟩


theorem m_less (g n cap : Nat) : ∀ w, Sem.run Try.prog (method (Try.prog.types.size + 100) 83 (.slice (some ⟨g, 0, none⟩) n cap) "Less") w = .ok (120, .slice (some ⟨g, 0, none⟩) n cap) w := fun _ => by kernel_rfl
theorem m_swap (g n cap : Nat) : ∀ w, Sem.run Try.prog (method (Try.prog.types.size + 100) 83 (.slice (some ⟨g, 0, none⟩) n cap) "Swap") w = .ok (121, .slice (some ⟨g, 0, none⟩) n cap) w := fun _ => by kernel_rfl
theorem m_len (g n cap : Nat) : ∀ w, Sem.run Try.prog (method (Try.prog.types.size + 100) 83 (.slice (some ⟨g, 0, none⟩) n cap) "Len") w = .ok (119, .slice (some ⟨g, 0, none⟩) n cap) w := fun _ => by kernel_rfl

theorem m_less2 (g n cap : Nat) : ∀ w, Sem.run Try.prog (method 252 83 (.slice (some ⟨g, 0, none⟩) n cap) "Less") w = .ok (120, .slice (some ⟨g, 0, none⟩) n cap) w := fun _ => by kernel_rfl
theorem m_swap2 (g n cap : Nat) : ∀ w, Sem.run Try.prog (method 252 83 (.slice (some ⟨g, 0, none⟩) n cap) "Swap") w = .ok (121, .slice (some ⟨g, 0, none⟩) n cap) w := fun _ => by kernel_rfl
theorem m_len2 (g n cap : Nat) : ∀ w, Sem.run Try.prog (method 252 83 (.slice (some ⟨g, 0, none⟩) n cap) "Len") w = .ok (119, .slice (some ⟨g, 0, none⟩) n cap) w := fun _ => by kernel_rfl

/-- Less and Swap at any world of the sort, n being the number of edges. -/
theorem lessN {g n : Nat} {sp : List Value} {w0 W : World} {d : Array Pr} (cap : Nat) (h : SS g sp w0 d W) (hd : d.size = n) {i j : Nat} (hi : i < n) (hj : j < n) :
    Calls Try.prog 120 #[.slice (some ⟨g, 0, none⟩) n cap, .int .i64 i, .int .i64 j] W fun e w' => e = .returned (.bool (ltP d[i]! d[j]!)) ∧ ∃ q, w' = W.drewN q := by
  subst hd
  rw [getElem!_pos d i hi, getElem!_pos d j hj]
  exact less_any cap h hi hj
theorem swapN {g n : Nat} {sp : List Value} {w0 W : World} {d : Array Pr} (cap : Nat) (h : SS g sp w0 d W) (hd : d.size = n) {i j : Nat} (hi : i < n) (hj : j < n) :
    Calls Try.prog 121 #[.slice (some ⟨g, 0, none⟩) n cap, .int .i64 i, .int .i64 j] W fun e w' => e = .returned (.tuple #[]) ∧ SS g sp w0 (swp d i j) w' := by
  subst hd
  exact swap_any cap h hi hj

theorem insInner_run {a j : Nat} {d : Array Pr} (hj : a < j) (hl : ltP d[j]! d[j - 1]! = true) : Go.Sort.insInner ltP a j d = Go.Sort.insInner ltP a (j - 1) (swp d j (j - 1)) := by
  cases j with
  | zero => omega
  | succ j =>
    rw [Go.Sort.insInner, if_pos]
    · rfl
    · simp only [Nat.add_sub_cancel] at hl
      simp only [hl, Bool.and_true, decide_eq_true_eq]; omega
theorem insInner_done {a j : Nat} {d : Array Pr} (h : j ≤ a ∨ ltP d[j]! d[j - 1]! = false) : Go.Sort.insInner ltP a j d = d := by
  cases j with
  | zero => rfl
  | succ j =>
    rw [Go.Sort.insInner, if_neg]
    rcases h with h | h
    · simp only [Bool.and_eq_true, decide_eq_true_eq]; omega
    · simp only [Nat.add_sub_cancel] at h
      simp [h]
theorem insOuter_run {a b i : Nat} {d : Array Pr} (h : i < b) : Go.Sort.insOuter ltP a b i d = Go.Sort.insOuter ltP a b (i + 1) (Go.Sort.insInner ltP a i d) := by rw [Go.Sort.insOuter, if_pos h]
theorem insOuter_done {a b i : Nat} {d : Array Pr} (h : ¬ i < b) : Go.Sort.insOuter ltP a b i d = d := by rw [Go.Sort.insOuter, if_neg h]

set_option maxHeartbeats 2000000 in
set_option maxRecDepth 100000 in
theorem insertionSort_any {g n a b : Nat} {sp : List Value} {w0 w : World} {d : Array Pr} (cap : Nat) (h : SS g sp w0 d w) (hd : d.size = n) (hn : n ≤ 256) (hab : a ≤ b) (hb : b ≤ n) :
    Calls Try.prog 89 #[.iface 83 (.slice (some ⟨g, 0, none⟩) n cap), .int .i64 a, .int .i64 b] w fun e w' => e = .returned (.tuple #[]) ∧ SS g sp w0 (Go.Sort.insertionSort ltP d a b) w' := by
  have mL := m_less g n cap
  have mS := m_swap g n cap
  go_enter Try.func89, Try.ntmps89
  go_wp2
  go_loopw [6] (fun vi wr => ∃ (i : Nat) (dk : Array Pr), vi = .int .i64 i ∧ a < i ∧ i ≤ b + 1 ∧ SS g sp w0 dk wr ∧ Hid (dk.size = n ∧ Go.Sort.insOuter ltP a b i dk = Go.Sort.insOuter ltP a b (a + 1) d)) (fun vi _ => b + 1 - (intOf vi).toNat)
  case atStart => exact ⟨a + 1, d, by go_num, by omega, by omega, h, hd, rfl⟩
  case round =>
    obtain ⟨i, dk, rfl, hai, hib, hS, HO⟩ := hrel
    by_cases hlt : i < b
    · go_wp2_with fail
      go_loopw [7] (fun vj wr2 => ∃ (j : Nat) (dj : Array Pr), vj = .int .i64 j ∧ a ≤ j ∧ j ≤ i ∧ SS g sp w0 dj wr2 ∧ Hid (dj.size = n ∧ Go.Sort.insInner ltP a j dj = Go.Sort.insInner ltP a i dk)) (fun vj _ => (intOf vj).toNat)
      case atStart => exact ⟨i, dk, rfl, by omega, Nat.le_refl _, hS, HO.out.1, rfl⟩
      case round =>
        obtain ⟨j, dj, rfl, haj, hji, hS2, HI⟩ := hrel
        have out : (j ≤ a ∨ ltP dj[j]! dj[j - 1]! = false) → Hid (dj.size = n ∧ Go.Sort.insOuter ltP a b (i + 1) dj = Go.Sort.insOuter ltP a b (a + 1) d) := fun hs =>
          ⟨HI.out.1, by rw [← HO.out.2, insOuter_run hlt, ← HI.out.2, insInner_done hs]⟩
        have OUT := Lib.hid out
        clear out
        by_cases hja : a < j
        · have hl := lessN cap hS2 HI.out.1 (i := j) (j := j - 1) (by omega) (by omega)
          rw [show (((j - 1 : Nat) : Int)) = (j : Int) - 1 by omega] at hl
          cases hlv : ltP dj[j]! dj[j - 1]! with
          | true =>
            rw [hlv] at hl
            have HG := Lib.hid (insInner_run hja hlv)
            clear hlv
            go_wp2_with fail
            refine hl.mono ?_
            clear hl
            rintro e w' ⟨rfl, q, rfl⟩
            have hsw := swapN cap (hS2.drewN q) HI.out.1 (i := j) (j := j - 1) (by omega) (by omega)
            rw [show (((j - 1 : Nat) : Int)) = (j : Int) - 1 by omega] at hsw
            go_wp2_with fail
            refine hsw.mono ?_
            clear hsw
            rintro e w' ⟨rfl, hS3⟩
            go_wp2_with fail
            go_roundw
            case rel => exact ⟨j - 1, swp dj j (j - 1), by congr 1; omega, by omega, by omega, hS3, by rw [Go.Sort.size_swp]; exact HI.out.1, by rw [← HI.out.2, HG.out]⟩
            case measure => simp [intOf]; omega
          | false =>
            rw [hlv] at hl
            have HO2 := OUT.out (Or.inr hlv)
            clear hlv
            go_wp2_with fail
            refine hl.mono ?_
            clear hl
            rintro e w' ⟨rfl, q, rfl⟩
            go_wp2_with fail
            go_roundw
            case rel => exact ⟨i + 1, dj, by go_num, by omega, by omega, hS2.drewN q, HO2⟩
            case measure => simp [intOf]; omega
        · have HO2 := OUT.out (Or.inl (by omega))
          go_wp2_with fail
          go_roundw
          case rel => exact ⟨i + 1, dj, by go_num, by omega, by omega, hS2, HO2⟩
          case measure => simp [intOf]; omega
    · go_wp2_with fail
      go_end0
      exact ⟨rfl, by unfold Go.Sort.insertionSort; rw [← HO.out.2, insOuter_done hlt]; exact hS⟩


/-- The same, the places as numbers of the walk. -/
theorem lessZ {g n : Nat} {sp : List Value} {w0 W : World} {d : Array Pr} {cap : Nat} {x y : Int} (i j : Nat) (v : Bool) (h : SS g sp w0 d W) (hd : d.size = n) (hi : i < n) (hj : j < n) (hv : ltP d[i]! d[j]! = v) (hx : x = i) (hy : y = j) :
    Calls Try.prog 120 #[.slice (some ⟨g, 0, none⟩) n cap, .int .i64 x, .int .i64 y] W fun e w' => e = .returned (.bool v) ∧ ∃ q, w' = W.drewN q := by
  subst hx hy hv
  exact lessN cap h hd hi hj
theorem swapZ {g n : Nat} {sp : List Value} {w0 W : World} {d : Array Pr} {cap : Nat} {x y : Int} (i j : Nat) (h : SS g sp w0 d W) (hd : d.size = n) (hi : i < n) (hj : j < n) (hx : x = i) (hy : y = j) :
    Calls Try.prog 121 #[.slice (some ⟨g, 0, none⟩) n cap, .int .i64 x, .int .i64 y] W fun e w' => e = .returned (.tuple #[]) ∧ SS g sp w0 (swp d i j) w' := by
  subst hx hy
  exact swapN cap h hd hi hj

end Go.Proofs.Ytaidaohkbbdimaa

namespace Go.Proofs.Ytaidaohkbbdimaa
open Go.RowKit
open Go.Sort (swp PermIn SortedIn)

theorem sift_done {hi first r : Nat} {d : Array Pr} (h : ¬ 2 * r + 1 < hi) : Go.Sort.siftDown ltP hi first r d = d := by rw [Go.Sort.siftDown, dif_pos (by omega)]
/-- The greater child is c. -/
theorem sift_step {hi first r c : Nat} {d : Array Pr} (h1 : 2 * r + 1 < hi)
    (hc : (2 * r + 1 + 1 < hi ∧ ltP d[first + (2 * r + 1)]! d[first + (2 * r + 1) + 1]! = true ∧ c = 2 * r + 2) ∨ ((2 * r + 1 + 1 < hi → ltP d[first + (2 * r + 1)]! d[first + (2 * r + 1) + 1]! = false) ∧ c = 2 * r + 1)) :
    Go.Sort.siftDown ltP hi first r d = if ltP d[first + r]! d[first + c]! then Go.Sort.siftDown ltP hi first c (swp d (first + r) (first + c)) else d := by
  rw [Go.Sort.siftDown, dif_neg (by omega)]
  rcases hc with ⟨h2, h3, rfl⟩ | ⟨h2, rfl⟩
  · rw [if_pos (by simp [h2, h3])]
    cases h : ltP d[first + r]! d[first + (2 * r + 2)]!
    · simp
    · simp [show 2 * r + 2 < hi by omega]
  · rw [if_neg (by
      by_cases h : 2 * r + 1 + 1 < hi
      · simp [h2 h]
      · simp [h])]
    cases h : ltP d[first + r]! d[first + (2 * r + 1)]! <;> simp

set_option maxHeartbeats 4000000 in
set_option maxRecDepth 100000 in
theorem siftDown_any {g n lo hi first : Nat} {sp : List Value} {w0 w : World} {d : Array Pr} (cap : Nat) (h : SS g sp w0 d w) (hd : d.size = n) (hn : n ≤ 256) (hlo : lo ≤ n) (hb : first + hi ≤ n) :
    Calls Try.prog 97 #[.iface 83 (.slice (some ⟨g, 0, none⟩) n cap), .int .i64 lo, .int .i64 hi, .int .i64 first] w fun e w' => e = .returned (.tuple #[]) ∧ SS g sp w0 (Go.Sort.siftDown ltP hi first lo d) w' := by
  have mL := m_less g n cap
  have mS := m_swap g n cap
  have mL2 := m_less2 g n cap
  have mS2 := m_swap2 g n cap
  go_enter Try.func97, Try.ntmps97
  go_wp2
  go_loopw [8] (fun vi wr => ∃ (r : Nat) (dk : Array Pr), vi = .int .i64 r ∧ r ≤ 256 ∧ SS g sp w0 dk wr ∧ Hid (dk.size = n ∧ Go.Sort.siftDown ltP hi first r dk = Go.Sort.siftDown ltP hi first lo d)) (fun vi _ => 256 - (intOf vi).toNat)
  case atStart => exact ⟨lo, d, rfl, by omega, h, hd, rfl⟩
  case round =>
    obtain ⟨r, dk, rfl, hr, hS, HO⟩ := hrel
    clear h
    by_cases h1 : 2 * r + 1 < hi
    · by_cases h2 : 2 * r + 1 + 1 < hi
      · cases hv : ltP dk[first + (2 * r + 1)]! dk[first + (2 * r + 1) + 1]! with
        | true =>
          have st := sift_step (first := first) (d := dk) h1 (Or.inl ⟨h2, hv, rfl⟩)
          rw [HO.out.2] at st
          have HV := Lib.hid hv
          clear hv
          cases hu : ltP dk[first + r]! dk[first + (2 * r + 2)]! with
          | true =>
            rw [hu, if_pos rfl] at st
            have ST := Lib.hid st
            have HU := Lib.hid hu
            clear st hu
            go_wp2_with fail
            refine (lessZ (first + (2 * r + 1)) (first + (2 * r + 1) + 1) true hS HO.out.1 (by omega) (by omega) HV.out (by omega) (by omega)).mono ?_
            rintro e w' ⟨rfl, q, rfl⟩
            go_wp2_with fail
            refine (lessZ (first + r) (first + (2 * r + 2)) true (hS.drewN _) HO.out.1 (by omega) (by omega) HU.out (by omega) (by omega)).mono ?_
            rintro e w' ⟨rfl, q2, rfl⟩
            go_wp2_with fail
            refine (swapZ (first + r) (first + (2 * r + 2)) (hS.drewN _) HO.out.1 (by omega) (by omega) (by omega) (by omega)).mono ?_
            rintro e w' ⟨rfl, hS3⟩
            go_wp2_with fail
            go_roundw
            case rel => exact ⟨(2 * r + 2), _, by congr 1 <;> omega, by omega, hS3, by rw [Go.Sort.size_swp]; exact HO.out.1, ST.out.symm⟩
            case measure => simp [intOf]; omega
          | false =>
            rw [hu, if_neg (by simp)] at st
            have ST := Lib.hid st
            have HU := Lib.hid hu
            clear st hu
            go_wp2_with fail
            refine (lessZ (first + (2 * r + 1)) (first + (2 * r + 1) + 1) true hS HO.out.1 (by omega) (by omega) HV.out (by omega) (by omega)).mono ?_
            rintro e w' ⟨rfl, q, rfl⟩
            go_wp2_with fail
            refine (lessZ (first + r) (first + (2 * r + 2)) false (hS.drewN _) HO.out.1 (by omega) (by omega) HU.out (by omega) (by omega)).mono ?_
            rintro e w' ⟨rfl, q2, rfl⟩
            go_wp2_with fail
            (try simp only [Exit.inBlock, Exit.then])
            refine bodyPost_ret (results_none rfl _ _ _) rfl ?_
            exact ⟨rfl, by rw [ST.out]; exact hS.drewN _⟩
        | false =>
          have st := sift_step (first := first) (d := dk) h1 (Or.inr ⟨fun _ => hv, rfl⟩)
          rw [HO.out.2] at st
          have HV := Lib.hid hv
          clear hv
          cases hu : ltP dk[first + r]! dk[first + (2 * r + 1)]! with
          | true =>
            rw [hu, if_pos rfl] at st
            have ST := Lib.hid st
            have HU := Lib.hid hu
            clear st hu
            go_wp2_with fail
            refine (lessZ (first + (2 * r + 1)) (first + (2 * r + 1) + 1) false hS HO.out.1 (by omega) (by omega) HV.out (by omega) (by omega)).mono ?_
            rintro e w' ⟨rfl, q, rfl⟩
            go_wp2_with fail
            refine (lessZ (first + r) (first + (2 * r + 1)) true (hS.drewN _) HO.out.1 (by omega) (by omega) HU.out (by omega) (by omega)).mono ?_
            rintro e w' ⟨rfl, q2, rfl⟩
            go_wp2_with fail
            refine (swapZ (first + r) (first + (2 * r + 1)) (hS.drewN _) HO.out.1 (by omega) (by omega) (by omega) (by omega)).mono ?_
            rintro e w' ⟨rfl, hS3⟩
            go_wp2_with fail
            go_roundw
            case rel => exact ⟨(2 * r + 1), _, by congr 1 <;> omega, by omega, hS3, by rw [Go.Sort.size_swp]; exact HO.out.1, ST.out.symm⟩
            case measure => simp [intOf]; omega
          | false =>
            rw [hu, if_neg (by simp)] at st
            have ST := Lib.hid st
            have HU := Lib.hid hu
            clear st hu
            go_wp2_with fail
            refine (lessZ (first + (2 * r + 1)) (first + (2 * r + 1) + 1) false hS HO.out.1 (by omega) (by omega) HV.out (by omega) (by omega)).mono ?_
            rintro e w' ⟨rfl, q, rfl⟩
            go_wp2_with fail
            refine (lessZ (first + r) (first + (2 * r + 1)) false (hS.drewN _) HO.out.1 (by omega) (by omega) HU.out (by omega) (by omega)).mono ?_
            rintro e w' ⟨rfl, q2, rfl⟩
            go_wp2_with fail
            (try simp only [Exit.inBlock, Exit.then])
            refine bodyPost_ret (results_none rfl _ _ _) rfl ?_
            exact ⟨rfl, by rw [ST.out]; exact hS.drewN _⟩
      · have st := sift_step (first := first) (d := dk) h1 (Or.inr ⟨fun h => absurd h h2, rfl⟩)
        rw [HO.out.2] at st
        cases hu : ltP dk[first + r]! dk[first + (2 * r + 1)]! with
        | true =>
          rw [hu, if_pos rfl] at st
          have ST := Lib.hid st
          have HU := Lib.hid hu
          clear st hu
          go_wp2_with fail
          refine (lessZ (first + r) (first + (2 * r + 1)) true hS HO.out.1 (by omega) (by omega) HU.out (by omega) (by omega)).mono ?_
          rintro e w' ⟨rfl, q2, rfl⟩
          go_wp2_with fail
          refine (swapZ (first + r) (first + (2 * r + 1)) (hS.drewN _) HO.out.1 (by omega) (by omega) (by omega) (by omega)).mono ?_
          rintro e w' ⟨rfl, hS3⟩
          go_wp2_with fail
          go_roundw
          case rel => exact ⟨(2 * r + 1), _, by congr 1 <;> omega, by omega, hS3, by rw [Go.Sort.size_swp]; exact HO.out.1, ST.out.symm⟩
          case measure => simp [intOf]; omega
        | false =>
          rw [hu, if_neg (by simp)] at st
          have ST := Lib.hid st
          have HU := Lib.hid hu
          clear st hu
          go_wp2_with fail
          refine (lessZ (first + r) (first + (2 * r + 1)) false hS HO.out.1 (by omega) (by omega) HU.out (by omega) (by omega)).mono ?_
          rintro e w' ⟨rfl, q2, rfl⟩
          go_wp2_with fail
          (try simp only [Exit.inBlock, Exit.then])
          refine bodyPost_ret (results_none rfl _ _ _) rfl ?_
          exact ⟨rfl, by rw [ST.out]; exact hS.drewN _⟩
    · have HE := Lib.hid (HO.out.2.symm.trans (sift_done h1))
      go_wp2_with fail
      go_end0
      exact ⟨rfl, by rw [HE.out]; exact hS⟩

end Go.Proofs.Ytaidaohkbbdimaa

namespace Go.Proofs.Ytaidaohkbbdimaa
open Go.RowKit
open Go.Sort (swp PermIn SortedIn)

theorem siftZ {g n : Nat} {sp : List Value} {w0 W : World} {d : Array Pr} {cap : Nat} {x y z : Int} (lo hi first : Nat) (h : SS g sp w0 d W) (hd : d.size = n) (hn : n ≤ 256) (hlo : lo ≤ n) (hb : first + hi ≤ n) (hx : x = lo) (hy : y = hi) (hz : z = first) :
    Calls Try.prog 97 #[.iface 83 (.slice (some ⟨g, 0, none⟩) n cap), .int .i64 x, .int .i64 y, .int .i64 z] W fun e w' => e = .returned (.tuple #[]) ∧ SS g sp w0 (Go.Sort.siftDown ltP hi first lo d) w' := by
  subst hx hy hz
  exact siftDown_any cap h hd hn hlo hb
theorem size_sift (hi first : Nat) : ∀ (m r : Nat) (d : Array Pr), hi - r ≤ m → (Go.Sort.siftDown ltP hi first r d).size = d.size := by
  intro m
  induction m with
  | zero => intro r d h; rw [sift_done (by omega)]
  | succ m ih =>
    intro r d h
    by_cases h1 : 2 * r + 1 < hi
    · obtain ⟨c, hc1, hc2⟩ : ∃ c, r < c ∧ ((2 * r + 1 + 1 < hi ∧ ltP d[first + (2 * r + 1)]! d[first + (2 * r + 1) + 1]! = true ∧ c = 2 * r + 2) ∨ ((2 * r + 1 + 1 < hi → ltP d[first + (2 * r + 1)]! d[first + (2 * r + 1) + 1]! = false) ∧ c = 2 * r + 1)) := by
        by_cases h2 : 2 * r + 1 + 1 < hi
        · cases h3 : ltP d[first + (2 * r + 1)]! d[first + (2 * r + 1) + 1]! with
          | true => exact ⟨2 * r + 2, by omega, Or.inl ⟨h2, rfl, rfl⟩⟩
          | false => exact ⟨2 * r + 1, by omega, Or.inr ⟨fun _ => rfl, rfl⟩⟩
        · exact ⟨2 * r + 1, by omega, Or.inr ⟨fun h => absurd h h2, rfl⟩⟩
      rw [sift_step h1 hc2]
      split
      · rw [ih c _ (by omega), Go.Sort.size_swp]
      · rfl
    · rw [sift_done h1]

set_option maxHeartbeats 4000000 in
set_option maxRecDepth 100000 in
theorem heapSort_any {g n a b : Nat} {sp : List Value} {w0 w : World} {d : Array Pr} (cap : Nat) (h : SS g sp w0 d w) (hd : d.size = n) (hn : n ≤ 256) (hab : a < b) (hb : b ≤ n) :
    Calls Try.prog 90 #[.iface 83 (.slice (some ⟨g, 0, none⟩) n cap), .int .i64 a, .int .i64 b] w fun e w' => e = .returned (.tuple #[]) ∧ SS g sp w0 (Go.Sort.heapSort ltP d a b) w' := by
  have mS := m_swap g n cap
  have mS2 := m_swap2 g n cap
  have p1 : (0 : Int) ≤ (b : Int) - (a : Int) := by omega
  have p2 : (0 : Int) ≤ (b : Int) - (a : Int) - 1 := by omega
  go_enter Try.func90, Try.ntmps90
  go_wp2_with fail
  go_loopw [9] (fun vi wr => ∃ (z : Int) (k : Nat) (dk : Array Pr), vi = .int .i64 z ∧ Hid (z = (k : Int) - 1) ∧ k ≤ b - a ∧ SS g sp w0 dk wr ∧ Hid (dk.size = n ∧ Go.Sort.heapPop ltP a (b - a) (Go.Sort.heapBuild ltP (b - a) a k dk) = Go.Sort.heapSort ltP d a b)) (fun vi _ => (intOf vi + 1).toNat)
  case atStart => exact ⟨_, (b - a - 1) / 2 + 1, d, rfl, (show (_ : Int) = _ by omega), by omega, h, hd, rfl⟩
  case round =>
    obtain ⟨z, k, dk, rfl, hz, hk, hS, HO⟩ := hrel
    clear h
    cases k with
    | succ k =>
      have z1 : 0 ≤ z := by have := hz.out; omega
      have z2 : z ≤ 256 := by have := hz.out; omega
      go_wp2_with fail
      refine (siftZ k (b - a) a hS HO.out.1 hn (by omega) (by omega) (by have := hz.out; omega) (by omega) rfl).mono ?_
      rintro e w' ⟨rfl, hS2⟩
      go_wp2_with fail
      go_roundw
      case rel => exact ⟨_, k, _, rfl, (show (_ : Int) = _ by have := hz.out; omega), by omega, hS2, by rw [size_sift _ _ _ _ _ (Nat.le_refl _)]; exact HO.out.1, HO.out.2⟩
      case measure => simp [intOf] <;> omega
    | zero =>
      have z1 : z < 0 := by have := hz.out; omega
      go_wp2_with fail
      go_loopw [10] (fun vi wr => ∃ (z : Int) (k : Nat) (dk : Array Pr), vi = .int .i64 z ∧ Hid (z = (k : Int) - 1) ∧ k ≤ b - a ∧ SS g sp w0 dk wr ∧ Hid (dk.size = n ∧ Go.Sort.heapPop ltP a k dk = Go.Sort.heapSort ltP d a b)) (fun vi _ => (intOf vi + 1).toNat)
      case atStart => exact ⟨_, b - a, dk, rfl, (show (_ : Int) = _ by omega), by omega, hS, HO.out.1, HO.out.2⟩
      case round =>
        obtain ⟨y, k, dj, rfl, hy, hkb, hS2, HI⟩ := hrel
        clear hS HO
        cases k with
        | succ k =>
          have y1 : 0 ≤ y := by have := hy.out; omega
          have y2 : y ≤ 256 := by have := hy.out; omega
          go_wp2_with fail
          refine (swapZ a (a + k) hS2 HI.out.1 (by omega) (by omega) rfl (by have := hy.out; omega)).mono ?_
          rintro e w' ⟨rfl, hS3⟩
          go_wp2_with fail
          refine (siftZ 0 k a hS3 (by rw [Go.Sort.size_swp]; exact HI.out.1) hn (by omega) (by omega) (by omega) (by have := hy.out; omega) rfl).mono ?_
          rintro e w' ⟨rfl, hS4⟩
          go_wp2_with fail
          go_roundw
          case rel => exact ⟨_, k, _, rfl, (show (_ : Int) = _ by have := hy.out; omega), by omega, hS4, by rw [size_sift _ _ _ _ _ (Nat.le_refl _), Go.Sort.size_swp]; exact HI.out.1, HI.out.2⟩
          case measure => simp [intOf] <;> omega
        | zero =>
          have y1 : y < 0 := by have := hy.out; omega
          go_wp2_with fail
          go_end0
          exact ⟨rfl, by rw [← HI.out.2]; exact hS2⟩

end Go.Proofs.Ytaidaohkbbdimaa

namespace Go.Proofs.Ytaidaohkbbdimaa
open Go.RowKit
open Go.Sort (swp PermIn SortedIn)

theorem perm_swp {a b : Nat} {d d' : Array Pr} {i j : Nat} (h : PermIn a b d d') (hb : b ≤ d.size) (hi : a ≤ i) (hi2 : i < b) (hj : a ≤ j) (hj2 : j < b) : PermIn a b d (swp d' i j) :=
  Go.Sort.permIn_trans d d' _ a b h (Go.Sort.swp_permIn d' a b i j hi hi2 hj hj2 (by rw [h.1]; exact hb))

set_option maxHeartbeats 2000000 in
set_option maxRecDepth 100000 in
theorem reverseRange_any {g n a b : Nat} {sp : List Value} {w0 w : World} {d : Array Pr} (cap : Nat) (h : SS g sp w0 d w) (hd : d.size = n) (hn : n ≤ 256) (hab : a < b) (hb : b ≤ n) :
    Calls Try.prog 93 #[.iface 83 (.slice (some ⟨g, 0, none⟩) n cap), .int .i64 a, .int .i64 b] w fun e w' => e = .returned (.tuple #[]) ∧ ∃ d', SS g sp w0 d' w' ∧ PermIn a b d d' := by
  have mS := m_swap g n cap
  have mS2 := m_swap2 g n cap
  go_enter Try.func93, Try.ntmps93
  go_wp2_with fail
  go_loopw [6, 7] (fun vi vj wr => ∃ (i j : Nat) (dk : Array Pr), vi = .int .i64 i ∧ vj = .int .i64 j ∧ a ≤ i ∧ j < b ∧ i ≤ b ∧ SS g sp w0 dk wr ∧ Hid (PermIn a b d dk)) (fun _ vj _ => (intOf vj).toNat)
  case atStart => exact ⟨a, b - 1, d, rfl, by congr 1 <;> omega, Nat.le_refl _, by omega, by omega, h, Go.Sort.permIn_refl _ _ _⟩
  case round =>
    obtain ⟨i, j, dk, rfl, rfl, hi, hj, hib, hS, HP⟩ := hrel
    clear h
    by_cases hij : i < j
    · go_wp2_with fail
      refine (swapZ i j hS (HP.out.1.trans hd) (by omega) (by omega) rfl rfl).mono ?_
      rintro e w' ⟨rfl, hS2⟩
      go_wp2_with fail
      go_roundw
      case rel => exact ⟨i + 1, j - 1, _, by go_num, by congr 1 <;> omega, by omega, by omega, by omega, hS2, perm_swp HP.out (by omega) (by omega) (by omega) (by omega) (by omega)⟩
      case measure => simp [intOf] <;> omega
    · go_wp2_with fail
      go_end0
      exact ⟨rfl, dk, hS, HP.out⟩

theorem scan_go {d : Array Pr} {b i : Nat} (h : i < b) (hl : ltP d[i]! d[i - 1]! = false) : Go.Sort.scanSorted ltP d b i = Go.Sort.scanSorted ltP d b (i + 1) := by
  rw [Go.Sort.scanSorted, if_pos (by simp [h, hl])]
theorem scan_stop {d : Array Pr} {b i : Nat} (h : ¬ i < b ∨ ltP d[i]! d[i - 1]! = true) : Go.Sort.scanSorted ltP d b i = i := by
  rw [Go.Sort.scanSorted, if_neg]
  rcases h with h | h <;> simp [h]
theorem down_go {d : Array Pr} {j : Nat} (h : 1 ≤ j) (hl : ltP d[j]! d[j - 1]! = true) : Go.Sort.shiftDown ltP j d = Go.Sort.shiftDown ltP (j - 1) (swp d j (j - 1)) := by
  obtain ⟨k, rfl⟩ : ∃ k, j = k + 1 := ⟨j - 1, by omega⟩
  simp only [Nat.add_sub_cancel] at hl ⊢
  rw [Go.Sort.shiftDown, if_neg (by simp [hl])]
theorem down_stop {d : Array Pr} {j : Nat} (h : j = 0 ∨ ltP d[j]! d[j - 1]! = false) : Go.Sort.shiftDown ltP j d = d := by
  cases j with
  | zero => rfl
  | succ k =>
    rcases h with h | h
    · omega
    · simp only [Nat.add_sub_cancel] at h
      rw [Go.Sort.shiftDown, if_pos (by simp [h])]
theorem up_go {d : Array Pr} {b j : Nat} (h : j < b) (hl : ltP d[j]! d[j - 1]! = true) : Go.Sort.shiftUp ltP b j d = Go.Sort.shiftUp ltP b (j + 1) (swp d j (j - 1)) := by
  rw [Go.Sort.shiftUp, if_pos h, if_neg (by simp [hl])]
theorem up_stop {d : Array Pr} {b j : Nat} (h : ¬ j < b ∨ ltP d[j]! d[j - 1]! = false) : Go.Sort.shiftUp ltP b j d = d := by
  rw [Go.Sort.shiftUp]
  rcases h with h | h
  · rw [if_neg h]
  · split
    · rw [if_pos (by simp [h])]
    · rfl
theorem pi_done {a b i : Nat} {d : Array Pr} {s : Nat} (h : Go.Sort.scanSorted ltP d b i = b) : Go.Sort.partialIns ltP a b (s + 1) i d = (d, true) := by
  rw [Go.Sort.partialIns]; simp [h]
theorem pi_short {a b i k : Nat} {d : Array Pr} {s : Nat} (h : Go.Sort.scanSorted ltP d b i = k) (hk : k ≠ b) (h50 : b - a < 50) : Go.Sort.partialIns ltP a b (s + 1) i d = (d, false) := by
  rw [Go.Sort.partialIns]; simp [h, hk, h50]
theorem pi_step {a b i k : Nat} {d d1 d2 : Array Pr} {s : Nat} (h : Go.Sort.scanSorted ltP d b i = k) (hk : k ≠ b) (h50 : ¬ b - a < 50)
    (h1 : (if k - a ≥ 2 then Go.Sort.shiftDown ltP (k - 1) (swp d k (k - 1)) else swp d k (k - 1)) = d1) (h2 : (if b - k ≥ 2 then Go.Sort.shiftUp ltP b (k + 1) d1 else d1) = d2) :
    Go.Sort.partialIns ltP a b (s + 1) i d = Go.Sort.partialIns ltP a b s k d2 := by
  rw [Go.Sort.partialIns]; simp only [h, if_neg hk, if_neg h50, h1, h2]

set_option maxHeartbeats 8000000 in
set_option maxRecDepth 1000000 in
theorem partialInsertionSort_any {g n a b : Nat} {sp : List Value} {w0 w : World} {d : Array Pr} (cap : Nat) (h : SS g sp w0 d w) (hd : d.size = n) (hn : n ≤ 256) (hab : a < b) (hb : b ≤ n) :
    Calls Try.prog 94 #[.iface 83 (.slice (some ⟨g, 0, none⟩) n cap), .int .i64 a, .int .i64 b] w fun e w' => e = .returned (.bool (Go.Sort.partialInsertionSort ltP d a b).2) ∧ SS g sp w0 (Go.Sort.partialInsertionSort ltP d a b).1 w' := by
  have mL := m_less g n cap
  have mS := m_swap g n cap
  have mL2 := m_less2 g n cap
  have mS2 := m_swap2 g n cap
  have HR : Hid (Go.Sort.partialIns ltP a b 5 (a + 1) d = Go.Sort.partialInsertionSort ltP d a b) := rfl
  generalize Go.Sort.partialInsertionSort ltP d a b = R at *
  go_enter Try.func94, Try.ntmps94
  go_wp2_with fail
  go_loopg [7, 8] 5 (fun g1 vi vs wr => ∃ (i s : Nat) (dk : Array Pr), vi = .int .i64 i ∧ vs = .int .i64 s ∧ s ≤ 5 ∧ 5 - s ≤ g1 ∧ a < i ∧ i ≤ b ∧ SS g sp w0 dk wr ∧ Hid (dk.size = n ∧ Go.Sort.partialIns ltP a b (5 - s) i dk = R))
  case atStart => exact ⟨a + 1, 0, d, by go_num, rfl, by omega, by omega, by omega, by omega, h, hd, HR.out⟩
  case round =>
    obtain ⟨i, s, dk, rfl, rfl, hs5, hg1, hai, hib, hS, HO⟩ := hrel
    clear h HR
    by_cases hs : s < 5
    · have hsz : (s : Int) < 5 := by omega
      go_wp2_with fail
      -- the scan
      go_loopg [7] (b - i) (fun g2 vi wr2 => ∃ k : Nat, vi = .int .i64 k ∧ i ≤ k ∧ k ≤ b ∧ b - k ≤ g2 ∧ SS g sp w0 dk wr2 ∧ Hid (Go.Sort.scanSorted ltP dk b k = Go.Sort.scanSorted ltP dk b i))
      case atStart => exact ⟨i, rfl, Nat.le_refl _, hib, Nat.le_refl _, hS, rfl⟩
      case round =>
        obtain ⟨k, rfl, hik, hkb, hg2, hS2, HK⟩ := hrel
        clear hS
        by_cases hkb2 : k < b
        · cases hv : ltP dk[k]! dk[k - 1]! with
          | false =>
            have HK2 := Lib.hid ((scan_go hkb2 hv).symm.trans HK.out)
            have HV := Lib.hid hv
            clear hv
            go_wp2_with fail
            refine (lessZ k (k - 1) false hS2 HO.out.1 (by omega) (by omega) HV.out rfl (by omega)).mono ?_
            rintro e w' ⟨rfl, q, rfl⟩
            go_wp2_with fail
            go_roundg (b - (k + 1))
            case measure => omega
            case rel => exact ⟨k + 1, by go_num, by omega, by omega, Nat.le_refl _, hS2.drewN _, HK2⟩
          | true =>
            have HK2 := Lib.hid (HK.out.symm.trans (scan_stop (Or.inr hv)))
            have HV := Lib.hid hv
            clear hv
            have hne : ((k : Int) == (b : Int)) = false := beq_eq_false_iff_ne.2 (by omega)
            by_cases h50 : b - a < 50
            · have h50z : (b : Int) - (a : Int) < 50 := by omega
              have he : R = (dk, false) := HO.out.2.symm.trans (by rw [show 5 - s = (4 - s) + 1 by omega]; exact pi_short HK2.out (by omega) h50)
              have HE := Lib.hid he
              clear he
              go_wp2_with fail
              refine (lessZ k (k - 1) true hS2 HO.out.1 (by omega) (by omega) HV.out rfl (by omega)).mono ?_
              rintro e w' ⟨rfl, q, rfl⟩
              go_wp2_with fail
              go_ret
              exact ⟨by rw [HE.out]; rfl, by rw [HE.out]; exact hS2.drewN _⟩
            · have h50z : ¬ ((b : Int) - (a : Int) < 50) := by omega
              go_wp2_with fail
              refine (lessZ k (k - 1) true hS2 HO.out.1 (by omega) (by omega) HV.out rfl (by omega)).mono ?_
              rintro e w' ⟨rfl, q, rfl⟩
              go_wp2_with fail
              refine (swapZ k (k - 1) (hS2.drewN _) HO.out.1 (by omega) (by omega) rfl (by omega)).mono ?_
              rintro e w' ⟨rfl, hS3⟩
              go_upto_if 45 with fail
              generalize hbk : decide ((2 : Int) ≤ (k : Int) - (a : Int)) = bk
              have HB := Lib.hid hbk
              clear hbk
              go_cut [9] (fun _ wx => ∃ d1 : Array Pr, SS g sp w0 d1 wx ∧ Hid (d1.size = n ∧ (if k - a ≥ 2 then Go.Sort.shiftDown ltP (k - 1) (swp dk k (k - 1)) else swp dk k (k - 1)) = d1))
              case first =>
                cases bk with
                | true =>
                  have hka : k - a ≥ 2 := by have := of_decide_eq_true HB.out; omega
                  go_wp2_with fail
                  go_loopg [9] (k - 1) (fun g3 vj wr3 => ∃ (j : Nat) (dj : Array Pr), vj = .int .i64 j ∧ j ≤ k - 1 ∧ j ≤ g3 ∧ SS g sp w0 dj wr3 ∧ Hid (dj.size = n ∧ Go.Sort.shiftDown ltP j dj = Go.Sort.shiftDown ltP (k - 1) (swp dk k (k - 1))))
                  case atStart => exact ⟨k - 1, _, by congr 1 <;> omega, Nat.le_refl _, Nat.le_refl _, hS3, by rw [Go.Sort.size_swp]; exact HO.out.1, rfl⟩
                  case round =>
                    obtain ⟨j, dj, rfl, hjk, hg3, hS4, HD⟩ := hrel
                    clear hS2 hS3
                    by_cases hj1 : 1 ≤ j
                    · have hj1z : (1 : Int) ≤ (j : Int) := by omega
                      cases hv2 : ltP dj[j]! dj[j - 1]! with
                      | true =>
                        have HD2 := Lib.hid ((down_go hj1 hv2).symm.trans HD.out.2)
                        have HV2 := Lib.hid hv2
                        clear hv2
                        go_wp2_with fail
                        refine (lessZ j (j - 1) true hS4 HD.out.1 (by omega) (by omega) HV2.out rfl (by omega)).mono ?_
                        rintro e w' ⟨rfl, q2, rfl⟩
                        go_wp2_with fail
                        refine (swapZ j (j - 1) (hS4.drewN _) HD.out.1 (by omega) (by omega) rfl (by omega)).mono ?_
                        rintro e w' ⟨rfl, hS5⟩
                        go_wp2_with fail
                        go_roundg (j - 1)
                        case measure => omega
                        case rel => exact ⟨j - 1, _, by congr 1 <;> omega, by omega, Nat.le_refl _, hS5, by rw [Go.Sort.size_swp]; exact HD.out.1, HD2.out⟩
                      | false =>
                        have HD2 := Lib.hid ((down_stop (Or.inr hv2)).symm.trans HD.out.2)
                        have HV2 := Lib.hid hv2
                        clear hv2
                        go_wp2_with fail
                        refine (lessZ j (j - 1) false hS4 HD.out.1 (by omega) (by omega) HV2.out rfl (by omega)).mono ?_
                        rintro e w' ⟨rfl, q2, rfl⟩
                        go_wp2_with fail
                        go_meet
                        case rel => exact ⟨dj, hS4.drewN _, HD.out.1, by rw [if_pos hka]; exact HD2.out.symm⟩
                    · have hj1z : ¬ (1 : Int) ≤ (j : Int) := by omega
                      have HD2 := Lib.hid ((down_stop (Or.inl (by omega))).symm.trans HD.out.2)
                      go_wp2_with fail
                      go_meet
                      case rel => exact ⟨dj, hS4, HD.out.1, by rw [if_pos hka]; exact HD2.out.symm⟩
                | false =>
                  have hka : ¬ k - a ≥ 2 := by have := of_decide_eq_false HB.out; omega
                  go_wp2_with fail
                  go_meet
                  case rel => exact ⟨_, hS3, by rw [Go.Sort.size_swp]; exact HO.out.1, by rw [if_neg hka]⟩
              case rest =>
                obtain ⟨d1, hSc, HC⟩ := hcut
                clear hS2 hS3
                have fin : ∀ d2, (if b - k ≥ 2 then Go.Sort.shiftUp ltP b (k + 1) d1 else d1) = d2 → Go.Sort.partialIns ltP a b (5 - (s + 1)) k d2 = R := fun d2 h2 => by
                  rw [← HO.out.2, show 5 - s = (5 - (s + 1)) + 1 by omega]
                  exact (pi_step HK2.out (by omega) h50 HC.out.2 h2).symm
                have FIN := Lib.hid fin
                clear fin
                by_cases hka : b - k ≥ 2
                · have hkaz : (2 : Int) ≤ (b : Int) - (k : Int) := by omega
                  go_wp2_with fail
                  go_loopg [10] (b - (k + 1)) (fun g4 vj wr4 => ∃ (j : Nat) (dj : Array Pr), vj = .int .i64 j ∧ k + 1 ≤ j ∧ j ≤ b ∧ b - j ≤ g4 ∧ SS g sp w0 dj wr4 ∧ Hid (dj.size = n ∧ Go.Sort.shiftUp ltP b j dj = Go.Sort.shiftUp ltP b (k + 1) d1))
                  case atStart => exact ⟨k + 1, d1, by go_num, Nat.le_refl _, by omega, Nat.le_refl _, hSc, HC.out.1, rfl⟩
                  case round =>
                    obtain ⟨j, dj, rfl, hjk, hjb, hg4, hS4, HD⟩ := hrel
                    clear hSc
                    by_cases hj1 : j < b
                    · have hj1z : (j : Int) < (b : Int) := by omega
                      cases hv2 : ltP dj[j]! dj[j - 1]! with
                      | true =>
                        have HD2 := Lib.hid ((up_go hj1 hv2).symm.trans HD.out.2)
                        have HV2 := Lib.hid hv2
                        clear hv2
                        go_wp2_with fail
                        refine (lessZ j (j - 1) true hS4 HD.out.1 (by omega) (by omega) HV2.out rfl (by omega)).mono ?_
                        rintro e w' ⟨rfl, q2, rfl⟩
                        go_wp2_with fail
                        refine (swapZ j (j - 1) (hS4.drewN _) HD.out.1 (by omega) (by omega) rfl (by omega)).mono ?_
                        rintro e w' ⟨rfl, hS5⟩
                        go_wp2_with fail
                        go_roundg (b - (j + 1))
                        case measure => omega
                        case rel => exact ⟨j + 1, _, by go_num, by omega, by omega, Nat.le_refl _, hS5, by rw [Go.Sort.size_swp]; exact HD.out.1, HD2.out⟩
                      | false =>
                        have HD2 := Lib.hid ((up_stop (Or.inr hv2)).symm.trans HD.out.2)
                        have HV2 := Lib.hid hv2
                        clear hv2
                        go_wp2_with fail
                        refine (lessZ j (j - 1) false hS4 HD.out.1 (by omega) (by omega) HV2.out rfl (by omega)).mono ?_
                        rintro e w' ⟨rfl, q2, rfl⟩
                        go_wp2_with fail
                        go_roundg (5 - (s + 1))
                        case measure => omega
                        case rel => exact ⟨k, s + 1, _, rfl, by go_num, by omega, Nat.le_refl _, by omega, by omega, hS4.drewN _, HD.out.1, FIN.out _ (by rw [if_pos hka]; exact HD2.out.symm)⟩
                    · have hj1z : ¬ (j : Int) < (b : Int) := by omega
                      have HD2 := Lib.hid ((up_stop (Or.inl hj1)).symm.trans HD.out.2)
                      go_wp2_with fail
                      go_roundg (5 - (s + 1))
                      case measure => omega
                      case rel => exact ⟨k, s + 1, _, rfl, by go_num, by omega, Nat.le_refl _, by omega, by omega, hS4, HD.out.1, FIN.out _ (by rw [if_pos hka]; exact HD2.out.symm)⟩
                · have hkaz : ¬ (2 : Int) ≤ (b : Int) - (k : Int) := by omega
                  go_wp2_with fail
                  go_roundg (5 - (s + 1))
                  case measure => omega
                  case rel => exact ⟨k, s + 1, _, rfl, by go_num, by omega, Nat.le_refl _, by omega, by omega, hSc, HC.out.1, FIN.out _ (by rw [if_neg hka])⟩
        · obtain rfl : k = b := by omega
          have he : R = (dk, true) := HO.out.2.symm.trans (by rw [show 5 - s = (4 - s) + 1 by omega]; exact pi_done (HK.out.symm.trans (scan_stop (Or.inl hkb2))))
          have HE := Lib.hid he
          clear he
          go_wp2_with fail
          go_ret
          exact ⟨by rw [HE.out]; rfl, by rw [HE.out]; exact hS2⟩
    · obtain rfl : s = 5 := by omega
      have HE := Lib.hid HO.out.2
      go_wp2_with fail
      go_ret
      exact ⟨by rw [← HE.out]; rfl, by rw [← HE.out]; exact hS⟩

end Go.Proofs.Ytaidaohkbbdimaa
