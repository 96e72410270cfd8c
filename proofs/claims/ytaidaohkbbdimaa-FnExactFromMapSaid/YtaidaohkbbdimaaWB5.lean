/-
  The plain mathematics of sorting edges: what a partition's scans keep, and how two sorted parts are put together.
  The walks, part B5: sort.Sort over a row of edges: partition.
  The walks, part B6: sort.Sort over a row of edges: order2, median, medianAdjacent, choosePivot: which places they may name; nothing is moved.
-/
import Derived.Test.YtaidaohkbbdimaaWB
namespace Go.Proofs.Ytaidaohkbbdimaa
open Go.Sort (swp PermIn SortedIn)

theorem ltP_t {x y : Pr} : ltP x y = true ↔ x.1.toNat < y.1.toNat := by unfold ltP; simp
theorem ltP_f {x y : Pr} : ltP x y = false ↔ y.1.toNat ≤ x.1.toNat := by unfold ltP; simp
theorem swp_at {d : Array Pr} {i j : Nat} (hi : i < d.size) (hj : j < d.size) (t : Nat) : (swp d i j)[t]! = if t = j then d[i]! else if t = i then d[j]! else d[t]! := by
  unfold swp
  by_cases ht : t < d.size
  · rw [getElem!_pos _ t (by simpa using ht), Array.getElem_setIfInBounds (by simpa using ht), Array.getElem_setIfInBounds ht]
    by_cases h1 : t = j
    · subst h1; simp
    · by_cases h2 : t = i
      · subst h2; simp [h1, Ne.symm h1]
      · simp [h1, h2, Ne.symm h1, Ne.symm h2, getElem!_pos d t ht]
  · rw [getElem!_neg _ t (by simpa using ht), if_neg (by omega), if_neg (by omega), getElem!_neg _ t (by simpa using ht)]

/-- What the scans of a partition keep: below i all are less than the pivot (at a), above j none is. -/
structure PI (n a b : Nat) (d dk : Array Pr) (i j : Nat) : Prop where
  size : dk.size = n
  perm : PermIn a b d dk
  ai : a < i
  ij : i ≤ j + 1
  jb : j < b
  lo : ∀ t, a < t → t < i → ltP dk[t]! dk[a]! = true
  hi : ∀ t, j < t → t < b → ltP dk[t]! dk[a]! = false

theorem PI.up {n a b i j : Nat} {d dk : Array Pr} (h : PI n a b d dk i j) (hij : i ≤ j) (hl : ltP dk[i]! dk[a]! = true) : PI n a b d dk (i + 1) j :=
  ⟨h.size, h.perm, by have := h.ai; omega, by omega, h.jb, fun t h1 h2 => by
    by_cases e : t = i
    · rw [e]; exact hl
    · exact h.lo t h1 (by omega), h.hi⟩
theorem PI.down {n a b i j : Nat} {d dk : Array Pr} (h : PI n a b d dk i j) (hij : i ≤ j) (hl : ltP dk[j]! dk[a]! = false) : PI n a b d dk i (j - 1) :=
  ⟨h.size, h.perm, h.ai, by have := h.ai; omega, by have := h.jb; omega, h.lo, fun t h1 h2 => by
    by_cases e : t = j
    · rw [e]; exact hl
    · exact h.hi t (by omega) h2⟩
theorem PI.exch {n a b i j : Nat} {d dk : Array Pr} (h : PI n a b d dk i j) (hb : b ≤ n) (hd : d.size = n) (hij : i ≤ j) (h1 : ltP dk[i]! dk[a]! = false) (h2 : ltP dk[j]! dk[a]! = true) :
    i < j ∧ PI n a b d (swp dk i j) (i + 1) (j - 1) := by
  have hlt : i < j := by
    rcases Nat.lt_or_ge i j with h3 | h3
    · exact h3
    · have : i = j := by omega
      rw [this, h2] at h1; cases h1
  have hai := h.ai
  have hjb := h.jb
  have hs := h.size
  have g := fun t => swp_at (d := dk) (i := i) (j := j) (by omega) (by omega) t
  have ga : (swp dk i j)[a]! = dk[a]! := by rw [g, if_neg (by omega), if_neg (by omega)]
  refine ⟨hlt, ⟨by rw [Go.Sort.size_swp]; exact hs, perm_swp h.perm (by omega) (by omega) (by omega) (by omega) (by omega), by omega, by omega, by omega, fun t h3 h4 => ?_, fun t h3 h4 => ?_⟩⟩
  · rw [ga, g, if_neg (by omega)]
    by_cases e : t = i
    · rw [if_pos e]; exact h2
    · rw [if_neg e]; exact h.lo t h3 (by omega)
  · rw [ga, g]
    by_cases e : t = j
    · rw [if_pos e]; exact h1
    · rw [if_neg e, if_neg (by omega)]; exact h.hi t (by omega) h4

/-- What a partition leaves. -/
structure Parted (a b mid : Nat) (d d' : Array Pr) : Prop where
  am : a ≤ mid
  mb : mid < b
  perm : PermIn a b d d'
  lo : ∀ t, a ≤ t → t < mid → ltP d'[t]! d'[mid]! = true
  hi : ∀ t, mid < t → t < b → ltP d'[t]! d'[mid]! = false
theorem PI.fin {n a b i j : Nat} {d dk : Array Pr} (h : PI n a b d dk i j) (hb : b ≤ n) (hd : d.size = n) (hij : j < i) : Parted a b j d (swp dk j a) := by
  have hai := h.ai
  have hjb := h.jb
  have hs := h.size
  have h1 := h.ij
  have g := fun t => swp_at (d := dk) (i := j) (j := a) (by omega) (by omega) t
  have gj : (swp dk j a)[j]! = dk[a]! := by
    rw [g]
    by_cases e : j = a
    · rw [if_pos e, e]
    · rw [if_neg e, if_pos rfl]
  refine ⟨by omega, hjb, perm_swp h.perm (by omega) (by omega) (by omega) (by omega) (by omega), fun t h3 h4 => ?_, fun t h3 h4 => ?_⟩
  · rw [gj, g]
    by_cases e : t = a
    · rw [if_pos e]; exact h.lo j (by omega) (by omega)
    · rw [if_neg e, if_neg (by omega)]; exact h.lo t (by omega) (by omega)
  · rw [gj, g, if_neg (by omega), if_neg (by omega)]; exact h.hi t h3 h4

/-! ### Distinct labels -/
def Dst (d : Array Pr) : Prop := (d.toList.map (·.1)).Nodup
theorem perm_list {a b : Nat} {d d' : Array Pr} (h : PermIn a b d d') (hb : b ≤ d.size) : d'.toList.Perm d.toList := by
  have h1 := Go.Sort.permIn_mono d d' a b 0 d.size (Nat.zero_le _) hb (Nat.le_refl _) h
  have h2 := h1.2.2
  rw [Array.extract_eq_self_of_le (Nat.le_refl _), Array.extract_eq_self_of_le (by rw [h1.1]; exact Nat.le_refl _)] at h2
  exact h2
theorem Dst.perm {a b : Nat} {d d' : Array Pr} (h : Dst d) (hp : PermIn a b d d') (hb : b ≤ d.size) : Dst d' :=
  (List.Perm.nodup_iff (List.Perm.map (fun x : Pr => x.1) (perm_list hp hb))).2 h
theorem Dst.ne {d : Array Pr} (h : Dst d) {i j : Nat} (hi : i < d.size) (hj : j < d.size) (hij : i ≠ j) : d[i]!.1.toNat ≠ d[j]!.1.toNat := by
  intro e
  have e2 := UInt8.toNat_inj.1 e
  rw [getElem!_pos d i hi, getElem!_pos d j hj] at e2
  have key : ∀ x y : Nat, x < y → (hx : x < d.size) → (hy : y < d.size) → d[x].1 ≠ d[y].1 := fun x y hxy hx hy => by
    have := List.pairwise_iff_getElem.1 h x y (by simpa using hx) (by simpa using hy) hxy
    simpa using this
  rcases Nat.lt_or_gt_of_ne hij with h3 | h3
  · exact key i j h3 hi hj e2
  · exact key j i h3 hj hi e2.symm

/-! ### Two sorted parts -/
theorem glue {a b mid : Nat} {R : Array Pr} (h1 : SortedIn ltP a mid R) (h2 : SortedIn ltP (mid + 1) b R) (hl : ∀ t, a ≤ t → t < mid → ltP R[t]! R[mid]! = true) (hr : ∀ t, mid < t → t < b → ltP R[t]! R[mid]! = false) : SortedIn ltP a b R := by
  intro i j hi hij hj
  by_cases c1 : j < mid
  · exact h1 i j hi hij c1
  · by_cases c2 : mid < i
    · exact h2 i j (by omega) hij hj
    · rw [ltP_f]
      have a1 : R[i]!.1.toNat ≤ R[mid]!.1.toNat := by
        by_cases e : i = mid
        · rw [e]; exact Nat.le_refl _
        · have := ltP_t.1 (hl i hi (by omega)); omega
      have a2 : R[mid]!.1.toNat ≤ R[j]!.1.toNat := by
        by_cases e : j = mid
        · rw [e]; exact Nat.le_refl _
        · exact ltP_f.1 (hr j (by omega) hj)
      omega
/-- The two parts sorted one behind the other. -/
theorem parts_sorted {a b mid x1 y1 x2 y2 : Nat} {d d4 L R : Array Pr} (hb : b ≤ d.size) (h : Parted a b mid d d4)
    (hp : (x1 = a ∧ y1 = mid ∧ x2 = mid + 1 ∧ y2 = b) ∨ (x1 = mid + 1 ∧ y1 = b ∧ x2 = a ∧ y2 = mid))
    (hL : PermIn x1 y1 d4 L) (sL : SortedIn ltP x1 y1 L) (hR : PermIn x2 y2 L R) (sR : SortedIn ltP x2 y2 R) : PermIn a b d R ∧ SortedIn ltP a b R := by
  have am := h.am
  have mb := h.mb
  have s4 : d4.size = d.size := h.perm.1
  have sLs : L.size = d4.size := hL.1
  have p1 : PermIn a b d L := Go.Sort.permIn_trans _ _ _ a b h.perm (Go.Sort.permIn_mono _ _ x1 y1 a b (by omega) (by omega) (by omega) hL)
  have p2 : PermIn a b d R := Go.Sort.permIn_trans _ _ _ a b p1 (Go.Sort.permIn_mono _ _ x2 y2 a b (by omega) (by omega) (by omega) hR)
  have eL : L[mid]! = d4[mid]! := hL.2.1 mid (by omega)
  have eR : R[mid]! = L[mid]! := hR.2.1 mid (by omega)
  have lo1 : ∀ t, a ≤ t → t < mid → ltP L[t]! d4[mid]! = true := by
    rcases hp with ⟨rfl, rfl, rfl, rfl⟩ | ⟨rfl, rfl, rfl, rfl⟩
    · exact Go.Sort.permIn_all d4 L x1 y1 (fun x => ltP x d4[y1]! = true) (by omega) hL h.lo
    · exact fun t h1 h2 => by rw [hL.2.1 t (Or.inl (by omega))]; exact h.lo t h1 h2
  have hi1 : ∀ t, mid < t → t < b → ltP L[t]! d4[mid]! = false := by
    rcases hp with ⟨rfl, rfl, rfl, rfl⟩ | ⟨rfl, rfl, rfl, rfl⟩
    · exact fun t h1 h2 => by rw [hL.2.1 t (Or.inr (by omega))]; exact h.hi t h1 h2
    · exact fun t h1 h2 => Go.Sort.permIn_all d4 L (y2 + 1) y1 (fun x => ltP x d4[y2]! = false) (by omega) hL (fun i h3 h4 => h.hi i (by omega) h4) t (by omega) h2
  have lo2 : ∀ t, a ≤ t → t < mid → ltP R[t]! d4[mid]! = true := by
    rcases hp with ⟨rfl, rfl, rfl, rfl⟩ | ⟨rfl, rfl, rfl, rfl⟩
    · exact fun t h1 h2 => by rw [hR.2.1 t (Or.inl (by omega))]; exact lo1 t h1 h2
    · exact Go.Sort.permIn_all L R x2 y2 (fun x => ltP x d4[y2]! = true) (by omega) hR lo1
  have hi2 : ∀ t, mid < t → t < b → ltP R[t]! d4[mid]! = false := by
    rcases hp with ⟨rfl, rfl, rfl, rfl⟩ | ⟨rfl, rfl, rfl, rfl⟩
    · exact fun t h1 h2 => Go.Sort.permIn_all L R (y1 + 1) y2 (fun x => ltP x d4[y1]! = false) (by omega) hR (fun i h3 h4 => hi1 i (by omega) h4) t (by omega) h2
    · exact fun t h1 h2 => by rw [hR.2.1 t (Or.inr (by omega))]; exact hi1 t h1 h2
  refine ⟨p2, glue ?_ ?_ (fun t h1 h2 => by rw [eR, eL]; exact lo2 t h1 h2) (fun t h1 h2 => by rw [eR, eL]; exact hi2 t h1 h2)⟩
  · rcases hp with ⟨rfl, rfl, rfl, rfl⟩ | ⟨rfl, rfl, rfl, rfl⟩
    · intro i j h1 h2 h3
      rw [hR.2.1 i (Or.inl (by omega)), hR.2.1 j (Or.inl (by omega))]; exact sL i j h1 h2 h3
    · exact sR
  · rcases hp with ⟨rfl, rfl, rfl, rfl⟩ | ⟨rfl, rfl, rfl, rfl⟩
    · exact sR
    · intro i j h1 h2 h3
      rw [hR.2.1 i (Or.inr (by omega)), hR.2.1 j (Or.inr (by omega))]; exact sL i j h1 h2 h3

end Go.Proofs.Ytaidaohkbbdimaa

namespace Go.Proofs.Ytaidaohkbbdimaa
open Go.RowKit
open Go.Sort (swp PermIn SortedIn)

def PartRet (g a b : Nat) (sp : List Value) (w0 : World) (d : Array Pr) (e : Ending) (w' : World) : Prop :=
  ∃ (mid : Nat) (ap : Bool) (d' : Array Pr), e = .returned (.tuple #[.int .i64 mid, .bool ap]) ∧ SS g sp w0 d' w' ∧ Parted a b mid d d'

set_option maxHeartbeats 8000000 in
set_option maxRecDepth 1000000 in
theorem partition_any {g n a b p : Nat} {sp : List Value} {w0 w : World} {d : Array Pr} (cap : Nat) (h : SS g sp w0 d w) (hd : d.size = n) (hn : n ≤ 256) (hap : a ≤ p) (hpb : p < b) (hab : a + 1 < b) (hb : b ≤ n) :
    Calls Try.prog 96 #[.iface 83 (.slice (some ⟨g, 0, none⟩) n cap), .int .i64 a, .int .i64 b, .int .i64 p] w (PartRet g a b sp w0 d) := by
  have mL := m_less g n cap
  have mS := m_swap g n cap
  have mL2 := m_less2 g n cap
  have mS2 := m_swap2 g n cap
  go_enter Try.func96, Try.ntmps96
  go_wp2_with fail
  refine (swapZ a p h hd (by omega) (by omega) rfl rfl).mono ?_
  rintro e w' ⟨rfl, h1⟩
  have HP0 : Hid (PI n a b d (swp d a p) (a + 1) (b - 1)) := ⟨by rw [Go.Sort.size_swp]; exact hd, Go.Sort.swp_permIn d a b a p (Nat.le_refl _) (by omega) hap hpb (by omega), by omega, by omega, by omega, fun t h2 h3 => by omega, fun t h2 h3 => by omega⟩
  generalize swp d a p = d1 at *
  clear h
  go_wp2_with fail
  -- the first scan from below
  go_loopg [10] b (fun g2 vi wr => ∃ i : Nat, vi = .int .i64 i ∧ a < i ∧ i ≤ b ∧ b - i ≤ g2 ∧ SS g sp w0 d1 wr ∧ Hid (PI n a b d d1 i (b - 1)))
  case atStart => exact ⟨a + 1, by go_num, by omega, by omega, by omega, h1, HP0.out⟩
  case round =>
    obtain ⟨i, rfl, hai, hib, hg2, hS, HP⟩ := hrel
    clear h1 HP0
    by_cases hij : i ≤ b - 1
    · have hijz : (i : Int) ≤ (b : Int) - 1 := by omega
      cases hv : ltP d1[i]! d1[a]! with
      | true =>
        have HP2 := Lib.hid (HP.out.up hij hv)
        have HV := Lib.hid hv
        clear hv
        go_wp2_with fail
        refine (lessZ i a true hS HP.out.size (by omega) (by omega) HV.out rfl rfl).mono ?_
        rintro e w' ⟨rfl, q, rfl⟩
        go_wp2_with fail
        go_roundg (b - (i + 1))
        case measure => omega
        case rel => exact ⟨i + 1, by go_num, by omega, by omega, Nat.le_refl _, hS.drewN _, HP2⟩
      | false =>
        have HV := Lib.hid hv
        clear hv
        go_wp2_with fail
        refine (lessZ i a false hS HP.out.size (by omega) (by omega) HV.out rfl rfl).mono ?_
        rintro e w' ⟨rfl, q, rfl⟩
        have hS2 := hS.drewN q
        clear hS
        go_wp2_with fail
        -- the first scan from above
        go_loopg [11] b (fun g3 vj wr => ∃ j : Nat, vj = .int .i64 j ∧ i ≤ j + 1 ∧ j < b ∧ j ≤ g3 ∧ SS g sp w0 d1 wr ∧ Hid (PI n a b d d1 i j))
        case atStart => exact ⟨b - 1, by congr 1 <;> omega, by omega, by omega, by omega, hS2, HP.out⟩
        case round =>
          obtain ⟨j, rfl, hij2, hjb, hg3, hS3, HQ⟩ := hrel
          clear hS2 HP
          by_cases hle : i ≤ j
          · have hlez : (i : Int) ≤ (j : Int) := by omega
            cases hu : ltP d1[j]! d1[a]! with
            | false =>
              have HQ2 := Lib.hid (HQ.out.down hle hu)
              have HU := Lib.hid hu
              clear hu
              go_wp2_with fail
              refine (lessZ j a false hS3 HQ.out.size (by omega) (by omega) HU.out rfl rfl).mono ?_
              rintro e w' ⟨rfl, q, rfl⟩
              go_wp2_with fail
              go_roundg (j - 1)
              case measure => omega
              case rel => exact ⟨j - 1, by congr 1 <;> omega, by omega, by omega, Nat.le_refl _, hS3.drewN _, HQ2⟩
            | true =>
              have HX := Lib.hid (HQ.out.exch hb hd hle HV.out hu)
              have hlt : i < j := HX.out.1
              have HU := Lib.hid hu
              clear hu
              have hngt : ¬ (j : Int) < (i : Int) := by omega
              go_wp2_with fail
              refine (lessZ j a true hS3 HQ.out.size (by omega) (by omega) HU.out rfl rfl).mono ?_
              rintro e w' ⟨rfl, q, rfl⟩
              go_wp2_with fail
              refine (swapZ i j (hS3.drewN _) HQ.out.size (by omega) (by omega) rfl rfl).mono ?_
              rintro e w' ⟨rfl, hS4⟩
              go_wp2_with fail
              have HX2 : Hid (PI n a b d (swp d1 i j) (i + 1) (j - 1)) := HX.out.2
              generalize swp d1 i j = d2 at *
              clear hS3 HX HQ HU HV
              go_loopg [10, 11] b (fun g4 vi vj wr => ∃ (x y : Nat) (dk : Array Pr), vi = .int .i64 x ∧ vj = .int .i64 y ∧ a < x ∧ x ≤ y + 1 ∧ y < b ∧ y + 1 - x ≤ g4 ∧ SS g sp w0 dk wr ∧ Hid (PI n a b d dk x y))
              case atStart => exact ⟨i + 1, j - 1, d2, by go_num, by congr 1 <;> omega, by omega, by omega, by omega, by omega, hS4, HX2.out⟩
              case round =>
                obtain ⟨x, y, dk, rfl, rfl, hax, hxy, hyb, hg4, hS5, HP5⟩ := hrel
                clear hS4 HX2
                go_wp2_with fail
                -- the scan from below
                go_loopg [10] b (fun g5 vi wr => ∃ i : Nat, vi = .int .i64 i ∧ x ≤ i ∧ i ≤ y + 1 ∧ b - i ≤ g5 ∧ SS g sp w0 dk wr ∧ Hid (PI n a b d dk i y))
                case atStart => exact ⟨x, rfl, Nat.le_refl _, hxy, by omega, hS5, HP5.out⟩
                case round =>
                  obtain ⟨i, rfl, hxi, hiy, hg5, hS6, HP6⟩ := hrel
                  clear hS5 HP5
                  by_cases hij : i ≤ y
                  · have hijz : (i : Int) ≤ (y : Int) := by omega
                    cases hv : ltP dk[i]! dk[a]! with
                    | true =>
                      have HP2 := Lib.hid (HP6.out.up hij hv)
                      have HV := Lib.hid hv
                      clear hv
                      go_wp2_with fail
                      refine (lessZ i a true hS6 HP6.out.size (by omega) (by omega) HV.out rfl rfl).mono ?_
                      rintro e w' ⟨rfl, q, rfl⟩
                      go_wp2_with fail
                      go_roundg (b - (i + 1))
                      case measure => omega
                      case rel => exact ⟨i + 1, by go_num, by omega, by omega, Nat.le_refl _, hS6.drewN _, HP2⟩
                    | false =>
                      have HV := Lib.hid hv
                      clear hv
                      go_wp2_with fail
                      refine (lessZ i a false hS6 HP6.out.size (by omega) (by omega) HV.out rfl rfl).mono ?_
                      rintro e w' ⟨rfl, q, rfl⟩
                      have hS7 := hS6.drewN q
                      clear hS6
                      go_wp2_with fail
                      -- the scan from above
                      go_loopg [11] b (fun g6 vj wr => ∃ j : Nat, vj = .int .i64 j ∧ i ≤ j + 1 ∧ j ≤ y ∧ j ≤ g6 ∧ SS g sp w0 dk wr ∧ Hid (PI n a b d dk i j))
                      case atStart => exact ⟨y, rfl, by omega, Nat.le_refl _, by omega, hS7, HP6.out⟩
                      case round =>
                        obtain ⟨j, rfl, hij2, hjy, hg6, hS8, HQ⟩ := hrel
                        clear hS7 HP6
                        by_cases hle : i ≤ j
                        · have hlez : (i : Int) ≤ (j : Int) := by omega
                          cases hu : ltP dk[j]! dk[a]! with
                          | false =>
                            have HQ2 := Lib.hid (HQ.out.down hle hu)
                            have HU := Lib.hid hu
                            clear hu
                            go_wp2_with fail
                            refine (lessZ j a false hS8 HQ.out.size (by omega) (by omega) HU.out rfl rfl).mono ?_
                            rintro e w' ⟨rfl, q, rfl⟩
                            go_wp2_with fail
                            go_roundg (j - 1)
                            case measure => omega
                            case rel => exact ⟨j - 1, by congr 1 <;> omega, by omega, by omega, Nat.le_refl _, hS8.drewN _, HQ2⟩
                          | true =>
                            have HX := Lib.hid (HQ.out.exch hb hd hle HV.out hu)
                            have hlt : i < j := HX.out.1
                            have HU := Lib.hid hu
                            clear hu
                            have hngt : ¬ (j : Int) < (i : Int) := by omega
                            go_wp2_with fail
                            refine (lessZ j a true hS8 HQ.out.size (by omega) (by omega) HU.out rfl rfl).mono ?_
                            rintro e w' ⟨rfl, q, rfl⟩
                            go_wp2_with fail
                            refine (swapZ i j (hS8.drewN _) HQ.out.size (by omega) (by omega) rfl rfl).mono ?_
                            rintro e w' ⟨rfl, hS9⟩
                            go_wp2_with fail
                            go_roundg (j - 1 + 1 - (i + 1))
                            case measure => omega
                            case rel => exact ⟨i + 1, j - 1, _, by go_num, by congr 1 <;> omega, by omega, by omega, by omega, Nat.le_refl _, hS9, HX.out.2⟩
                        · have hlez : ¬ (i : Int) ≤ (j : Int) := by omega
                          have HF := Lib.hid (HQ.out.fin hb hd (by omega))
                          go_wp2_with fail
                          refine (swapZ j a hS8 HQ.out.size (by omega) (by omega) rfl rfl).mono ?_
                          rintro e w' ⟨rfl, hS9⟩
                          go_wp2_with fail
                          go_ret2
                          exact ⟨j, false, _, rfl, hS9, HF.out⟩
                  · have hijz : ¬ (i : Int) ≤ (y : Int) := by omega
                    have HF := Lib.hid (HP6.out.fin hb hd (by omega))
                    go_wp2_with fail
                    go_loopg [11] 0 (fun _ vj wr => vj = .int .i64 y ∧ SS g sp w0 dk wr)
                    case atStart => exact ⟨rfl, hS6⟩
                    case round =>
                      obtain ⟨rfl, hS7⟩ := hrel
                      clear hS6
                      go_wp2_with fail
                      refine (swapZ y a hS7 HP6.out.size (by omega) (by omega) rfl rfl).mono ?_
                      rintro e w' ⟨rfl, hS9⟩
                      go_wp2_with fail
                      go_ret2
                      exact ⟨y, false, _, rfl, hS9, HF.out⟩
          · have hlez : ¬ (i : Int) ≤ (j : Int) := by omega
            have HF := Lib.hid (HQ.out.fin hb hd (by omega))
            go_wp2_with fail
            refine (swapZ j a hS3 HQ.out.size (by omega) (by omega) rfl rfl).mono ?_
            rintro e w' ⟨rfl, hS4⟩
            go_wp2_with fail
            go_ret2
            exact ⟨j, true, _, rfl, hS4, HF.out⟩
    · have hijz : ¬ (i : Int) ≤ (b : Int) - 1 := by omega
      have HF := Lib.hid (HP.out.fin hb hd (by omega))
      go_wp2_with fail
      go_loopg [11] 0 (fun _ vj wr => ∃ z : Nat, vj = .int .i64 z ∧ Hid (z = b - 1) ∧ z < i ∧ SS g sp w0 d1 wr)
      case atStart => exact ⟨b - 1, by congr 1 <;> omega, rfl, by omega, hS⟩
      case round =>
        obtain ⟨z, rfl, hz, hzi, hS7⟩ := hrel
        have hziz : ¬ (i : Int) ≤ (z : Int) := by omega
        clear hS
        go_wp2_with fail
        refine (swapZ z a hS7 HP.out.size (by have := hz.out; omega) (by omega) rfl rfl).mono ?_
        rintro e w' ⟨rfl, hS9⟩
        go_wp2_with fail
        go_ret2
        exact ⟨z, true, _, rfl, hS9, by rw [hz.out]; exact HF.out⟩

end Go.Proofs.Ytaidaohkbbdimaa

namespace Go.Proofs.Ytaidaohkbbdimaa
open Go.RowKit
open Go.Sort (swp PermIn SortedIn)

theorem SS.new {g : Nat} {sp : List Value} {w0 W : World} {d : Array Pr} (h : SS g sp w0 d W) (o : Obj) : SS g sp w0 d (W.alloc o) := ⟨h.row.alloc o, h.rest.alloc o⟩
theorem SS.far {g cb i : Nat} {sp : List Value} {w0 W : World} {d : Array Pr} (h : SS g sp w0 d W) (hg : g < w0.heap.size) (hcb : w0.heap.size ≤ cb) (v : Value) : SS g sp w0 d (W.setCell ⟨cb, i, none⟩ v) :=
  ⟨h.row.far (p := ⟨cb, i, none⟩) (show g ≠ cb by omega) v, h.rest.setCell (p := ⟨cb, i, none⟩) (Or.inr hcb) v⟩

def O2 (g : Nat) (sp : List Value) (w0 : World) (d : Array Pr) (cb S : Nat) (P : Nat → Nat → Prop) (e : Ending) (w' : World) : Prop :=
  ∃ x y s : Nat, e = .returned (.tuple #[.int .i64 x, .int .i64 y]) ∧ P x y ∧ s ≤ S + 1 ∧ SS g sp w0 d w' ∧ Bk w' cb 3 #[.int .i64 s]

set_option maxHeartbeats 1000000 in
theorem order2_any {g n a b cb s S : Nat} {sp : List Value} {w0 w : World} {d : Array Pr} {cap : Nat} (h : SS g sp w0 d w) (hg : g < w0.heap.size) (hcb : w0.heap.size ≤ cb) (hd : d.size = n) (ha : a < n) (hb : b < n) (hc : Bk w cb 3 #[.int .i64 s]) (hs : s ≤ S) (hS : S ≤ 100) :
    Calls Try.prog 102 #[.iface 83 (.slice (some ⟨g, 0, none⟩) n cap), .int .i64 a, .int .i64 b, .pointer (some ⟨cb, 0, none⟩)] w (O2 g sp w0 d cb S fun x y => (x = a ∧ y = b) ∨ (x = b ∧ y = a)) := by
  have mL := m_less g n cap
  have mL2 := m_less2 g n cap
  have k0 : w.cell? ⟨cb, 0, none⟩ = some (.int .i64 s) := by rw [hc.cell]; rfl
  have f0 := hc.frozen 0
  have HC := Lib.hid hc
  clear hc
  go_enter Try.func102, Try.ntmps102
  cases hv : ltP d[b]! d[a]! with
  | true =>
    have HV := Lib.hid hv
    clear hv
    go_wp2_with fail
    refine (lessZ b a true h hd hb ha HV.out rfl rfl).mono ?_
    rintro e w' ⟨rfl, q, rfl⟩
    go_wp2_with fail
    go_ret2
    exact ⟨b, a, s + 1, rfl, Or.inr ⟨rfl, rfl⟩, by omega, (h.far (i := 0) hg hcb _).drewN q, (HC.out.set_ 0 _).drewN q⟩
  | false =>
    have HV := Lib.hid hv
    clear hv
    go_wp2_with fail
    refine (lessZ b a false h hd hb ha HV.out rfl rfl).mono ?_
    rintro e w' ⟨rfl, q, rfl⟩
    go_wp2_with fail
    go_ret2
    exact ⟨a, b, s, rfl, Or.inl ⟨rfl, rfl⟩, by omega, h.drewN q, HC.out.drewN q⟩

def O1 (g : Nat) (sp : List Value) (w0 : World) (d : Array Pr) (cb S : Nat) (P : Nat → Prop) (e : Ending) (w' : World) : Prop :=
  ∃ x s : Nat, e = .returned (.int .i64 x) ∧ P x ∧ s ≤ S + 3 ∧ SS g sp w0 d w' ∧ Bk w' cb 3 #[.int .i64 s]

set_option maxHeartbeats 1000000 in
theorem median_any {g n a b c cb s S : Nat} {x y z : Int} {sp : List Value} {w0 w : World} {d : Array Pr} {cap : Nat} (h : SS g sp w0 d w) (hg : g < w0.heap.size) (hcb : w0.heap.size ≤ cb) (hd : d.size = n) (ha : a < n) (hb : b < n) (hc' : c < n) (hc : Bk w cb 3 #[.int .i64 s]) (hs : s ≤ S) (hS : S ≤ 90)
    (hx : x = a) (hy : y = b) (hz : z = c) :
    Calls Try.prog 101 #[.iface 83 (.slice (some ⟨g, 0, none⟩) n cap), .int .i64 x, .int .i64 y, .int .i64 z, .pointer (some ⟨cb, 0, none⟩)] w (O1 g sp w0 d cb S fun x => x = a ∨ x = b ∨ x = c) := by
  subst hx hy hz
  go_enter Try.func101, Try.ntmps101
  go_wp2_with fail
  refine (order2_any h hg hcb hd ha hb hc hs (by omega)).mono ?_
  rintro e w1 ⟨x1, y1, s1, rfl, hp1, hs1, h1, hc1⟩
  have b1 : x1 < n ∧ y1 < n := by omega
  have P1 := Lib.hid hp1
  clear hp1 h hc
  go_wp2_with fail
  refine (order2_any (S := S + 1) h1 hg hcb hd b1.2 hc' hc1 hs1 (by omega)).mono ?_
  rintro e w2 ⟨y2, z2, s2, rfl, hp2, hs2, h2, hc2⟩
  have b2 : y2 < n ∧ z2 < n := by omega
  have P2 := Lib.hid hp2
  clear hp2 h1 hc1
  go_wp2_with fail
  refine (order2_any (S := S + 2) h2 hg hcb hd b1.1 b2.1 hc2 hs2 (by omega)).mono ?_
  rintro e w3 ⟨x3, y3, s3, rfl, hp3, hs3, h3, hc3⟩
  have P3 := Lib.hid hp3
  clear hp3 h2 hc2
  go_wp2_with fail
  go_ret
  exact ⟨y3, s3, rfl, by have := P1.out; have := P2.out; have := P3.out; omega, by omega, h3, hc3⟩

set_option maxHeartbeats 1000000 in
theorem medianAdjacent_any {g n a cb s S : Nat} {x : Int} {sp : List Value} {w0 w : World} {d : Array Pr} {cap : Nat} (h : SS g sp w0 d w) (hg : g < w0.heap.size) (hcb : w0.heap.size ≤ cb) (hd : d.size = n) (hn : n ≤ 256) (ha : 1 ≤ a) (ha2 : a + 1 < n) (hc : Bk w cb 3 #[.int .i64 s]) (hs : s ≤ S) (hS : S ≤ 90) (hx : x = a) :
    Calls Try.prog 100 #[.iface 83 (.slice (some ⟨g, 0, none⟩) n cap), .int .i64 x, .pointer (some ⟨cb, 0, none⟩)] w (O1 g sp w0 d cb S fun x => a ≤ x + 1 ∧ x ≤ a + 1) := by
  subst hx
  go_enter Try.func100, Try.ntmps100
  go_wp2_with fail
  refine (median_any (a := a - 1) (b := a) (c := a + 1) h hg hcb hd (by omega) (by omega) (by omega) hc hs hS (by omega) rfl (by omega)).mono ?_
  rintro e w1 ⟨x1, s1, rfl, hp1, hs1, h1, hc1⟩
  have P1 := Lib.hid hp1
  clear hp1 h hc
  go_wp2_with fail
  go_ret
  exact ⟨x1, s1, rfl, by have := P1.out; omega, hs1, h1, hc1⟩

def Pivot (g : Nat) (sp : List Value) (w0 : World) (d : Array Pr) (a b : Nat) (e : Ending) (w' : World) : Prop :=
  ∃ p h : Nat, e = .returned (.tuple #[.int .i64 p, .int .i64 h]) ∧ a ≤ p ∧ p < b ∧ (h = 0 ∨ h = 1 ∨ h = 2) ∧ SS g sp w0 d w'

set_option maxHeartbeats 4000000 in
set_option maxRecDepth 100000 in
theorem choosePivot_any {g n a b : Nat} {sp : List Value} {w0 w : World} {d : Array Pr} {cap : Nat} (h : SS g sp w0 d w) (hg : g < w0.heap.size) (hd : d.size = n) (hn : n ≤ 256) (hab : a + 13 ≤ b) (hb : b ≤ n) :
    Calls Try.prog 92 #[.iface 83 (.slice (some ⟨g, 0, none⟩) n cap), .int .i64 a, .int .i64 b] w (Pivot g sp w0 d a b) := by
  have hcb : w0.heap.size ≤ w.heap.size := h.rest.size
  have hS := h.new (.cells #[.int .i64 0] 3)
  have hC : Bk (w.alloc (.cells #[.int .i64 0] 3)) w.heap.size 3 #[.int .i64 (0 : Nat)] := Bk.new w _ _
  obtain ⟨W, hW⟩ : ∃ W, W = w.alloc (.cells #[.int .i64 0] 3) := ⟨_, rfl⟩
  rw [← hW] at hS hC
  have p0 : (0 : Int) ≤ (b : Int) - (a : Int) := by omega
  have p1 : (8 : Int) ≤ (b : Int) - (a : Int) := by omega
  obtain ⟨m, hm⟩ : ∃ m : Nat, m = (b - a) / 4 := ⟨_, rfl⟩
  have HM := Lib.hid hm
  have m1 : 3 ≤ m := by omega
  have m2 : a + 4 * m ≤ b := by omega
  clear hm h
  by_cases h50 : b - a < 50
  · have p2 : ¬ (50 : Int) ≤ (b : Int) - (a : Int) := by omega
    go_enter Try.func92, Try.ntmps92
    go_wp2_with fail
    rw [← hW]
    clear hW
    refine (median_any (a := a + m * 1) (b := a + m * 2) (c := a + m * 3) (S := 0) hS hg hcb hd (by omega) (by omega) (by omega) hC (Nat.le_refl _) (by omega) (by have := HM.out; omega) (by have := HM.out; omega) (by have := HM.out; omega)).mono ?_
    rintro e w1 ⟨x1, s1, rfl, hp1, hs1, h1, hc1⟩
    have P1 := Lib.hid hp1
    clear hp1 hS hC
    have k0 : w1.cell? ⟨w.heap.size, 0, none⟩ = some (.int .i64 s1) := by rw [hc1.cell]; rfl
    clear hc1
    go_wp2_with fail
    all_goals
      go_ret2
      have P := P1.out
      have M := HM.out
      first
        | exact ⟨x1, 1, rfl, by omega, by omega, by omega, h1⟩
        | exact ⟨x1, 2, rfl, by omega, by omega, by omega, h1⟩
        | exact ⟨x1, 0, rfl, by omega, by omega, by omega, h1⟩
  · have p2 : (50 : Int) ≤ (b : Int) - (a : Int) := by omega
    have m3 : 12 ≤ m := by have := HM.out; omega
    go_enter Try.func92, Try.ntmps92
    go_wp2_with fail
    rw [← hW]
    clear hW
    refine (medianAdjacent_any (a := a + m * 1) (S := 0) hS hg hcb hd hn (by omega) (by omega) hC (Nat.le_refl _) (by omega) (by have := HM.out; omega)).mono ?_
    rintro e w1 ⟨xi, s1, rfl, hp1, hs1, h1, hc1⟩
    have Pi := Lib.hid hp1
    clear hp1 hS hC
    go_wp2_with fail
    refine (medianAdjacent_any (a := a + m * 2) (S := 3) h1 hg hcb hd hn (by omega) (by omega) hc1 hs1 (by omega) (by have := HM.out; omega)).mono ?_
    rintro e w2 ⟨xj, s2, rfl, hp2, hs2, h2, hc2⟩
    have Pj := Lib.hid hp2
    clear hp2 h1 hc1
    go_wp2_with fail
    refine (medianAdjacent_any (a := a + m * 3) (S := 6) h2 hg hcb hd hn (by omega) (by omega) hc2 hs2 (by omega) (by have := HM.out; omega)).mono ?_
    rintro e w3 ⟨xk, s3, rfl, hp3, hs3, h3, hc3⟩
    have Pk := Lib.hid hp3
    clear hp3 h2 hc2
    go_wp2_with fail
    refine (median_any (a := xi) (b := xj) (c := xk) (S := 9) h3 hg hcb hd (by have := Pi.out; omega) (by have := Pj.out; omega) (by have := Pk.out; omega) hc3 hs3 (by omega) rfl rfl rfl).mono ?_
    rintro e w4 ⟨x1, s4, rfl, hp4, hs4, h4, hc4⟩
    have P1 := Lib.hid hp4
    clear hp4 h3 hc3
    have k0 : w4.cell? ⟨w.heap.size, 0, none⟩ = some (.int .i64 s4) := by rw [hc4.cell]; rfl
    clear hc4
    go_wp2_with fail
    all_goals
      go_ret2
      have P := P1.out
      have Qi := Pi.out
      have Qj := Pj.out
      have Qk := Pk.out
      have M := HM.out
      first
        | exact ⟨x1, 1, rfl, by omega, by omega, by omega, h4⟩
        | exact ⟨x1, 2, rfl, by omega, by omega, by omega, h4⟩
        | exact ⟨x1, 0, rfl, by omega, by omega, by omega, h4⟩

end Go.Proofs.Ytaidaohkbbdimaa
