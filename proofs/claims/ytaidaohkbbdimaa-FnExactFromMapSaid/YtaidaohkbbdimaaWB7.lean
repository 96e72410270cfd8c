/-
  The walks, part B7: sort.Sort over a row of edges: bits.Len, nextPowerOfTwo, xorshift.Next, breakPatterns.
  The walks, part B8: sort.Sort over a row of edges: breakPatterns.
  The walks, part B9: sort.Sort over a row of edges: pdqsort and Sort.
-/
import Derived.Test.YtaidaohkbbdimaaWB5
import Derived.Lib.BitFns
namespace Go.Proofs.Ytaidaohkbbdimaa
open Go.RowKit
open Go.Sort (swp PermIn SortedIn)

theorem len8_at (y : Int) (h : y.toNat < Lib.len8tab.size) : ((Lib.len8tab[y.toNat]'h).toNat : Int) = Lib.len8 y := by
  unfold Lib.len8
  rw [ByteArray.getElem?_lt' _ _ h, Option.getD_some]

set_option maxHeartbeats 1000000 in
set_option maxRecDepth 100000 in
theorem bitsLen_any (x : Int) (w : World) (h0 : 0 ≤ x) (hx : x ≤ 256) : Calls Try.prog 85 #[.int .u64 x] w fun e w' => e = .returned (.int .i64 (Lib.bitLen x.toNat)) ∧ w' = w := by
  by_cases h : x = 256
  · subst h
    go_enter Try.func85, Try.ntmps85
    go_wp2
    go_ret
    refine ⟨congrArg Ending.returned (congrArg (Value.int IntKind.i64) ?_), rfl⟩
    decide +kernel
  · have h1 : x < 256 := by omega
    clear h
    go_enter Try.func85, Try.ntmps85
    go_wp2
    go_ret
    refine ⟨congrArg Ending.returned (congrArg (Value.int IntKind.i64) ?_), rfl⟩
    have l8 := Lib.bitLen_le8' x h0 (by omega)
    rw [len8_at, Lib.len8_of x h0 (by omega), IntWalk.wrap64_in (Lib.bitLen x.toNat : Int) (by omega), IntWalk.wrap64_in _ (by omega)]


theorem bitLen_two {x : Nat} (h1 : 1 ≤ x) (hx : x ≤ 256) : 2 ^ Lib.bitLen x ≤ 2 * x ∧ Lib.bitLen x ≤ 9 := by
  have all : ∀ y : Fin 257, 1 ≤ y.val → 2 ^ Lib.bitLen y.val ≤ 2 * y.val ∧ Lib.bitLen y.val ≤ 9 := by decide +kernel
  exact all ⟨x, by omega⟩ h1

set_option maxHeartbeats 1000000 in
set_option maxRecDepth 100000 in
theorem nextPow_any (x : Int) (w : World) (h0 : 1 ≤ x) (hx : x ≤ 256) : Calls Try.prog 98 #[.int .i64 x] w fun e w' => e = .returned (.int .u64 (2 ^ Lib.bitLen x.toNat : Nat)) ∧ w' = w := by
  have hb := bitLen_two (x := x.toNat) (by omega) (by omega)
  go_enter Try.func98, Try.ntmps98
  go_wp2_with fail
  refine (bitsLen_any x _ (by omega) hx).mono ?_
  rintro e w' ⟨rfl, rfl⟩
  have hw : IntKind.u64.wrap (2 ^ Lib.bitLen x.toNat) = ((2 ^ Lib.bitLen x.toNat : Nat) : Int) := by
    have e : ((2 : Int) ^ Lib.bitLen x.toNat) = ((2 ^ Lib.bitLen x.toNat : Nat) : Int) := by simp
    have all : ∀ m : Nat, m ≤ 512 → IntKind.u64.wrap (m : Int) = m := fun m h => IntWalk.u64_in _ (by omega)
    rw [e]; exact all _ (by omega)
  have HW := Lib.hid hw
  clear hw
  obtain ⟨hb1, hb2⟩ := hb
  go_wp2_with fail
  go_ret
  exact ⟨by rw [← HW.out]; rfl, rfl⟩


def Nexted (g : Nat) (sp : List Value) (w0 : World) (d : Array Pr) (cb : Nat) (e : Ending) (w' : World) : Prop :=
  ∃ x y : Int, e = .returned (.int .u64 x) ∧ SS g sp w0 d w' ∧ Bk w' cb 128 #[.int .u64 y]

set_option maxHeartbeats 2000000 in
set_option maxRecDepth 100000 in
theorem next_any {g cb : Nat} {y : Int} {sp : List Value} {w0 w : World} {d : Array Pr} (h : SS g sp w0 d w) (hg : g < w0.heap.size) (hcb : w0.heap.size ≤ cb) (hc : Bk w cb 128 #[.int .u64 y]) :
    Calls Try.prog 99 #[.pointer (some ⟨cb, 0, none⟩)] w (Nexted g sp w0 d cb) := by
  have k0 : w.cell? ⟨cb, 0, none⟩ = some (.int .u64 y) := by rw [hc.cell]; rfl
  have f0 := hc.frozen 0
  have s1 : ∀ v1 : Value, (w.setCell ⟨cb, 0, none⟩ v1).cell? ⟨cb, 0, none⟩ = some v1 := fun v1 => by rw [(hc.set_ 0 v1).cell]; rfl
  have s2 : ∀ v1 v2 : Value, ((w.setCell ⟨cb, 0, none⟩ v1).setCell ⟨cb, 0, none⟩ v2).cell? ⟨cb, 0, none⟩ = some v2 := fun v1 v2 => by rw [((hc.set_ 0 v1).set_ 0 v2).cell]; rfl
  have s3 : ∀ v1 v2 v3 : Value, (((w.setCell ⟨cb, 0, none⟩ v1).setCell ⟨cb, 0, none⟩ v2).setCell ⟨cb, 0, none⟩ v3).cell? ⟨cb, 0, none⟩ = some v3 := fun v1 v2 v3 => by rw [(((hc.set_ 0 v1).set_ 0 v2).set_ 0 v3).cell]; rfl
  have HC := Lib.hid hc
  have HS := Lib.hid h
  clear hc h
  go_enter Try.func99, Try.ntmps99
  go_wp2
  go_region
  go_wp2
  go_region
  go_wp2
  go_region
  go_wp2
  go_ret
  exact ⟨_, _, rfl, ((((((HS.out.far (i := 0) hg hcb _).drewN 1).far (i := 0) hg hcb _).drewN 1).far (i := 0) hg hcb _).drewN 1), ((((((HC.out.set_ 0 _).drewN 1).set_ 0 _).drewN 1).set_ 0 _).drewN 1)⟩

end Go.Proofs.Ytaidaohkbbdimaa

namespace Go.Proofs.Ytaidaohkbbdimaa
open Go.RowKit
open Go.Sort (swp PermIn SortedIn)

/-- The same row, seen from the world itself. -/
theorem SS.self {g : Nat} {sp : List Value} {w0 W : World} {d : Array Pr} (h : SS g sp w0 d W) : SS g sp W d W := ⟨h.row, Mut.refl _ _⟩
theorem SS.onto {g : Nat} {sp : List Value} {w0 W W' : World} {d d' : Array Pr} (h : SS g sp w0 d W) (k : SS g sp W d' W') : SS g sp w0 d' W' := ⟨k.row, h.rest.trans k.rest fun _ hb => Or.inl hb⟩
theorem SS.keep {g b : Nat} {sp : List Value} {w0 W : World} {d : Array Pr} {t : TypeId} {cs : Array Value} (h : SS g sp w0 d W) (hb : Bk w0 b t cs) (hg : b ≠ g) : Bk W b t cs := hb.of (h.rest.block b hb.lt (by simpa using hg))

theorem and_le (X : Int) (M : Int) (h0 : 0 ≤ M) (h1 : M ≤ 1000) : 0 ≤ bits .and .u64 X M ∧ bits .and .u64 X M ≤ M := by
  obtain ⟨k, rfl⟩ := Int.eq_ofNat_of_zero_le h0
  have e : bits .and .u64 X (k : Int) = IntKind.u64.wrap (((BitVec.ofInt 64 X &&& BitVec.ofInt 64 (k : Int)).toNat : Nat) : Int) := rfl
  have h2 : (BitVec.ofInt 64 X &&& BitVec.ofInt 64 (k : Int)).toNat ≤ k := by
    rw [BitVec.toNat_and]
    refine Nat.le_trans Nat.and_le_right ?_
    rw [BitVec.ofInt_natCast, BitVec.toNat_ofNat]
    exact Nat.mod_le _ _
  rw [e, IntWalk.u64_in _ (by omega)]
  omega

set_option maxHeartbeats 4000000 in
set_option maxRecDepth 100000 in
theorem breakPatterns_any {g n a b : Nat} {sp : List Value} {w0 w : World} {d : Array Pr} {cap : Nat} (h : SS g sp w0 d w) (hg : g < w0.heap.size) (hd : d.size = n) (hn : n ≤ 256) (hab : a + 13 ≤ b) (hb : b ≤ n) :
    Calls Try.prog 91 #[.iface 83 (.slice (some ⟨g, 0, none⟩) n cap), .int .i64 a, .int .i64 b] w fun e w' => e = .returned (.tuple #[]) ∧ ∃ d', SS g sp w0 d' w' ∧ PermIn a b d d' := by
  have mS := m_swap g n cap
  have mS2 := m_swap2 g n cap
  have hcb : w0.heap.size ≤ w.heap.size := h.rest.size
  have p0 : (0 : Int) ≤ (b : Int) - (a : Int) := by omega
  have p1 : (8 : Int) ≤ (b : Int) - (a : Int) := by omega
  have hS := h.new (.cells #[.int .u64 ((b : Int) - a)] 128)
  have hC : Bk (w.alloc (.cells #[.int .u64 ((b : Int) - a)] 128)) w.heap.size 128 #[.int .u64 ((b : Int) - a)] := Bk.new w _ _
  obtain ⟨W, hW⟩ : ∃ W, W = w.alloc (.cells #[.int .u64 ((b : Int) - a)] 128) := ⟨_, rfl⟩
  rw [← hW] at hS hC
  have hm := bitLen_two (x := ((b : Int) - a).toNat) (by omega) (by omega)
  clear h
  go_enter Try.func91, Try.ntmps91
  go_wp2_with fail
  rw [← hW]
  clear hW
  refine (nextPow_any _ _ (by omega) (by omega)).mono ?_
  rintro e w' ⟨rfl, rfl⟩
  have hm1 : 0 < 2 ^ Lib.bitLen ((b : Int) - a).toNat := Nat.two_pow_pos _
  generalize 2 ^ Lib.bitLen ((b : Int) - a).toNat = M at *
  obtain ⟨hm2, _⟩ := hm
  obtain ⟨m, hmm⟩ : ∃ m : Nat, m = (b - a) / 4 := ⟨_, rfl⟩
  have HM := Lib.hid hmm
  have m1 : 3 ≤ m := by omega
  have m2 : a + 4 * m ≤ b := by omega
  clear hmm
  go_wp2_with fail
  go_loopg [9] 4 (fun gx vi wr => ∃ (z : Nat) (y : Int) (dk : Array Pr), vi = .int .i64 z ∧ a + m * 2 ≤ z + 1 ∧ z ≤ a + m * 2 + 2 ∧ a + m * 2 + 2 - z ≤ gx ∧ SS g sp w0 dk wr ∧ Bk wr w.heap.size 128 #[.int .u64 y] ∧ Hid (PermIn a b d dk))
  case atStart => exact ⟨a + m * 2 - 1, _, d, (by congr 1; have := HM.out; omega), by omega, by omega, by omega, hS, hC, Go.Sort.permIn_refl _ _ _⟩
  case round =>
    obtain ⟨z, y, dk, rfl, hz1, hz2, hgx, hSr, hCr, HP⟩ := hrel
    clear hS hC
    by_cases hz : z ≤ a + m * 2 + 1
    · have hzz : (z : Int) ≤ (a : Int) + ((b : Int) - (a : Int)) / 4 * 2 + 1 := by have := HM.out; omega
      go_wp2_with fail
      refine (next_any hSr hg hcb hCr).mono ?_
      rintro e w1 ⟨x, y2, rfl, hS1, hC1⟩
      clear hSr hCr
      have ha := and_le x ((M : Int) - 1) (by omega) (by omega)
      obtain ⟨o, ho⟩ : ∃ o : Nat, bits .and .u64 x ((M : Int) - 1) = o := ⟨_, (Int.toNat_of_nonneg ha.1).symm⟩
      rw [ho] at ha
      go_wp2_with fail
      · have hsz : dk.size = n := HP.out.1.trans hd
        have M3 := HM.out
        refine (swapZ z (a + (o - (b - a))) hS1.self hsz (by omega) (by omega) rfl (by omega)).mono ?_
        clear hsz M3
        rintro e w2 ⟨rfl, hS2⟩
        have hp : Hid (PermIn a b d (swp dk z (a + (o - (b - a))))) := perm_swp HP.out (by omega) (by omega) (by have := HM.out; omega) (by omega) (by omega)
        have hS3 := hS1.onto hS2
        have hC3 := hS2.keep hC1 (by omega)
        clear hS1 hS2 hC1
        go_wp2_with fail
        go_roundg (a + m * 2 + 2 - (z + 1))
        case measure => omega
        case rel => exact ⟨z + 1, y2, _, by go_num, by omega, by omega, Nat.le_refl _, hS3, hC3, hp⟩
      · have hsz : dk.size = n := HP.out.1.trans hd
        have M3 := HM.out
        refine (swapZ z (a + o) hS1.self hsz (by omega) (by omega) rfl (by omega)).mono ?_
        clear hsz M3
        rintro e w2 ⟨rfl, hS2⟩
        have hp : Hid (PermIn a b d (swp dk z (a + o))) := perm_swp HP.out (by omega) (by omega) (by have := HM.out; omega) (by omega) (by omega)
        have hS3 := hS1.onto hS2
        have hC3 := hS2.keep hC1 (by omega)
        clear hS1 hS2 hC1
        go_wp2_with fail
        go_roundg (a + m * 2 + 2 - (z + 1))
        case measure => omega
        case rel => exact ⟨z + 1, y2, _, by go_num, by omega, by omega, Nat.le_refl _, hS3, hC3, hp⟩
    · have hzz : ¬ (z : Int) ≤ (a : Int) + ((b : Int) - (a : Int)) / 4 * 2 + 1 := by have := HM.out; omega
      go_wp2_with fail
      go_end0
      exact ⟨rfl, dk, hSr, HP.out⟩

end Go.Proofs.Ytaidaohkbbdimaa

namespace Go.Proofs.Ytaidaohkbbdimaa
open Go.RowKit
open Go.Sort (swp PermIn SortedIn)

theorem ltP_swo : Go.Sort.SWO ltP := ⟨fun x => by rw [ltP_f]; exact Nat.le_refl _, fun x y z h1 h2 => by rw [ltP_t] at *; omega, fun x y z h1 h2 => by rw [ltP_f] at *; omega⟩

/-- What pdqsort's loop keeps: what is left is [x, y), and when that is sorted all is. -/
structure Pq (n a b : Nat) (d : Array Pr) (x y : Nat) (dk : Array Pr) : Prop where
  size : dk.size = n
  below : Go.Sort.Below ltP x y dk
  dst : Dst dk
  fin : ∀ R, PermIn x y dk R → SortedIn ltP x y R → PermIn a b d R ∧ SortedIn ltP a b R

theorem below_perm {x y : Nat} {dk d2 : Array Pr} (h : Go.Sort.Below ltP x y dk) (hy : y ≤ dk.size) (hp : PermIn x y dk d2) : Go.Sort.Below ltP x y d2 := by
  by_cases h0 : x = 0
  · exact Or.inl h0
  · rcases h with h | h
    · exact Or.inl h
    · refine Or.inr ?_
      rw [hp.2.1 (x - 1) (Or.inl (by omega))]
      exact Go.Sort.permIn_all dk d2 x y (fun z => ltP z dk[x - 1]! = false) hy hp h
theorem Pq.start {n a b : Nat} {d : Array Pr} (hd : d.size = n) (hb : Go.Sort.Below ltP a b d) (hs : Dst d) : Pq n a b d a b d := ⟨hd, hb, hs, fun _ h1 h2 => ⟨h1, h2⟩⟩
theorem Pq.turn {n a b x y : Nat} {d dk d2 : Array Pr} (h : Pq n a b d x y dk) (hy : y ≤ n) (hp : PermIn x y dk d2) : Pq n a b d x y d2 :=
  ⟨hp.1.trans h.size, below_perm h.below (by rw [h.size]; exact hy) hp, h.dst.perm hp (by rw [h.size]; exact hy), fun R h1 h2 => h.fin R (Go.Sort.permIn_trans _ _ _ x y hp h1) h2⟩
theorem Pq.low {n a b x y mid : Nat} {d dk d4 : Array Pr} (h : Pq n a b d x y dk) (hy : y ≤ n) (hp : Parted x y mid dk d4) : Go.Sort.Below ltP x mid d4 ∧ Go.Sort.Below ltP (mid + 1) y d4 ∧ Dst d4 ∧ d4.size = n := by
  have am := hp.am
  have mb := hp.mb
  have h1 := below_perm h.below (by rw [h.size]; exact hy) hp.perm
  refine ⟨?_, Or.inr fun i hi hi' => ?_, h.dst.perm hp.perm (by rw [h.size]; exact hy), hp.perm.1.trans h.size⟩
  · rcases h1 with h1 | h1
    · exact Or.inl h1
    · exact Or.inr fun i hi hi' => h1 i hi (by omega)
  · rw [Nat.add_sub_cancel]; exact hp.hi i (by omega) hi'
theorem Pq.left {n a b x y mid : Nat} {d dk d4 L : Array Pr} (h : Pq n a b d x y dk) (hy : y ≤ n) (hp : Parted x y mid dk d4) (hL : PermIn x mid d4 L) (sL : SortedIn ltP x mid L) : Pq n a b d (mid + 1) y L := by
  have am := hp.am
  have mb := hp.mb
  obtain ⟨_, b2, ds, sz⟩ := h.low hy hp
  refine ⟨hL.1.trans sz, Or.inr fun i hi hi' => ?_, ds.perm hL (by omega), fun R h1 h2 => ?_⟩
  · rw [Nat.add_sub_cancel, hL.2.1 i (Or.inr (by omega)), hL.2.1 mid (Or.inr (by omega))]; exact hp.hi i (by omega) hi'
  · have := parts_sorted (by rw [h.size]; exact hy) hp (Or.inl ⟨rfl, rfl, rfl, rfl⟩) hL sL h1 h2
    exact h.fin R this.1 this.2
theorem Pq.right {n a b x y mid : Nat} {d dk d4 L : Array Pr} (h : Pq n a b d x y dk) (hy : y ≤ n) (hp : Parted x y mid dk d4) (hL : PermIn (mid + 1) y d4 L) (sL : SortedIn ltP (mid + 1) y L) : Pq n a b d x mid L := by
  have am := hp.am
  have mb := hp.mb
  obtain ⟨b1, _, ds, sz⟩ := h.low hy hp
  refine ⟨hL.1.trans sz, ?_, ds.perm hL (by omega), fun R h1 h2 => ?_⟩
  · by_cases h0 : x = 0
    · exact Or.inl h0
    · rcases b1 with h1 | h1
      · exact Or.inl h1
      · exact Or.inr fun i hi hi' => by rw [hL.2.1 i (Or.inl (by omega)), hL.2.1 (x - 1) (Or.inl (by omega))]; exact h1 i hi hi'
  · have := parts_sorted (by rw [h.size]; exact hy) hp (Or.inr ⟨rfl, rfl, rfl, rfl⟩) hL sL h1 h2
    exact h.fin R this.1 this.2
theorem Pq.above {n a b x y p : Nat} {d dk : Array Pr} (h : Pq n a b d x y dk) (hy : y ≤ n) (hx : 0 < x) (hp : x ≤ p) (hp2 : p < y) : ltP dk[x - 1]! dk[p]! = true := by
  rw [ltP_t]
  have hs := h.size
  have h1 := h.dst.ne (i := x - 1) (j := p) (by omega) (by omega) (by omega)
  rcases h.below with h2 | h2
  · omega
  · have := ltP_f.1 (h2 p hp hp2); omega

def Pdqd (g : Nat) (sp : List Value) (w0 : World) (a b : Nat) (d : Array Pr) (e : Ending) (w' : World) : Prop :=
  e = .returned (.tuple #[]) ∧ ∃ d', SS g sp w0 d' w' ∧ PermIn a b d d' ∧ SortedIn ltP a b d'
def PdqSaid (g n cap : Nat) (sp : List Value) (w0 : World) (k : Nat) : Prop :=
  ∀ (a b lim : Nat) (A B L : Int) (d : Array Pr) (w : World), b - a < k → A = a → B = b → L = lim → lim ≤ 100 → a ≤ b → b ≤ n → d.size = n → Go.Sort.Below ltP a b d → Dst d → SS g sp w0 d w →
    Calls Try.prog 86 #[.iface 83 (.slice (some ⟨g, 0, none⟩) n cap), .int .i64 A, .int .i64 B, .int .i64 L] w (Pdqd g sp w0 a b d)

set_option maxHeartbeats 16000000 in
set_option maxRecDepth 1000000 in
theorem pdq_step {g n cap : Nat} {sp : List Value} {w0 : World} (hg : g < w0.heap.size) (hn : n ≤ 256) (k : Nat) (ih : PdqSaid g n cap sp w0 k) (a b lim : Nat) (d : Array Pr) (w : World) (hk : b - a < k + 1) (hlim : lim ≤ 100) (hab : a ≤ b) (hb : b ≤ n) (hd : d.size = n)
    (hB : Go.Sort.Below ltP a b d) (hD : Dst d) (hS : SS g sp w0 d w) :
    Calls Try.prog 86 #[.iface 83 (.slice (some ⟨g, 0, none⟩) n cap), .int .i64 a, .int .i64 b, .int .i64 lim] w (Pdqd g sp w0 a b d) := by
  have mL := m_less g n cap
  have mL2 := m_less2 g n cap
  have HP0 := Lib.hid (Pq.start hd hB hD)
  clear hB hD hd
  go_enter Try.func86, Try.ntmps86
  go_wp2_with fail
  go_loopg [1, 2, 3, 8, 9] b (fun gx s1 s2 s3 s8 s9 wr => ∃ (x y l : Nat) (wb wp : Bool) (dk : Array Pr), s1 = .int .i64 x ∧ s2 = .int .i64 y ∧ s3 = .int .i64 l ∧ s8 = .bool wb ∧ s9 = .bool wp ∧ a ≤ x ∧ x ≤ y ∧ y ≤ b ∧ l ≤ 100 ∧ y - x ≤ gx ∧ SS g sp w0 dk wr ∧ Hid (Pq n a b d x y dk))
  case atStart => exact ⟨a, b, lim, true, true, d, rfl, rfl, rfl, rfl, rfl, Nat.le_refl _, hab, Nat.le_refl _, hlim, by omega, hS, HP0.out⟩
  case round =>
    obtain ⟨x, y, l, wb, wp, dk, rfl, rfl, rfl, rfl, rfl, hax, hxy, hyb, hl, hgx, hSk, HP⟩ := hrel
    clear hS HP0
    by_cases h12 : y - x ≤ 12
    · have h12z : (y : Int) - (x : Int) ≤ 12 := by omega
      go_wp2_with fail
      refine (insertionSort_any cap hSk HP.out.size hn hxy (by omega)).mono ?_
      rintro e w1 ⟨rfl, hS1⟩
      have hi := Go.Sort.insertionSort_holds ltP_swo dk x y hxy (by rw [HP.out.size]; omega)
      have hf := Lib.hid (HP.out.fin _ hi.1 hi.2)
      clear hi
      go_wp2_with fail
      (try simp only [Exit.inBlock, Exit.then])
      refine bodyPost_ret (results_none rfl _ _ _) rfl ?_
      exact ⟨rfl, _, hS1, hf.out⟩
    · have h12z : ¬ (y : Int) - (x : Int) ≤ 12 := by omega
      by_cases hl0 : l = 0
      · subst hl0
        go_wp2_with fail
        refine (heapSort_any cap hSk HP.out.size hn (by omega) (by omega)).mono ?_
        rintro e w1 ⟨rfl, hS1⟩
        have hi := Go.Sort.heapSort_holds ltP_swo dk x y hxy (by rw [HP.out.size]; omega)
        have hf := Lib.hid (HP.out.fin _ hi.1 hi.2)
        clear hi
        go_wp2_with fail
        (try simp only [Exit.inBlock, Exit.then])
        refine bodyPost_ret (results_none rfl _ _ _) rfl ?_
        exact ⟨rfl, _, hS1, hf.out⟩
      · have hl0z : ((l : Int) == 0) = false := beq_eq_false_iff_ne.2 (by omega)
        go_upto_if 35 with fail
        go_cut [3] (fun s3 wx => ∃ (l2 : Nat) (d2 : Array Pr), s3 = .int .i64 l2 ∧ l2 ≤ 100 ∧ SS g sp w0 d2 wx ∧ Hid (Pq n a b d x y d2))
        case first =>
          cases wb with
          | true =>
            go_wp2_with fail
            go_meet
            case rel => exact ⟨l, dk, rfl, hl, hSk, HP⟩
          | false =>
            go_wp2_with fail
            refine (breakPatterns_any hSk hg HP.out.size hn (by omega) (by omega)).mono ?_
            rintro e w1 ⟨rfl, d1, hS1, hp1⟩
            have H1 := Lib.hid (HP.out.turn (by omega) hp1)
            clear hp1
            go_wp2_with fail
            go_meet
            case rel => exact ⟨l - 1, d1, by congr 1 <;> omega, by omega, hS1, H1⟩
        case rest =>
          obtain ⟨l2, d2, rfl, hl2, hS2, H2⟩ := hcut
          clear hSk HP
          go_wp2_with fail
          refine (choosePivot_any hS2 hg H2.out.size hn (by omega) (by omega)).mono ?_
          rintro e w3 ⟨p, h, rfl, hp1, hp2, hh, hS3⟩
          clear hS2
          go_upto_if 50 with fail
          generalize hbq : ((h : Int) == 2) = bq
          go_cut [11, 12] (fun s11 s12 wx => ∃ (p2 h2 : Nat) (d3 : Array Pr), s11 = .int .i64 p2 ∧ s12 = .int .i64 h2 ∧ x ≤ p2 ∧ p2 < y ∧ SS g sp w0 d3 wx ∧ Hid (Pq n a b d x y d3))
          case first =>
            cases bq with
            | true =>
              clear hbq
              go_wp2_with fail
              refine (reverseRange_any cap hS3 H2.out.size hn (by omega) (by omega)).mono ?_
              rintro e w4 ⟨rfl, d3, hS4, hp4⟩
              have H3 := Lib.hid (H2.out.turn (by omega) hp4)
              clear hp4
              go_wp2_with fail
              go_meet
              case rel => exact ⟨y - 1 - (p - x), 1, d3, by congr 1 <;> omega, rfl, by omega, by omega, hS4, H3⟩
            | false =>
              clear hbq
              go_wp2_with fail
              go_meet
              case rel => exact ⟨p, h, d2, rfl, rfl, hp1, hp2, hS3, H2⟩
          case rest =>
            obtain ⟨p2, h2, d3, rfl, rfl, hq1, hq2, hS4, H3⟩ := hcut
            clear hS3 H2 hbq
            go_upto_region 15 with fail
            go_cut [68] (fun s68 wx => ∃ bb : Bool, s68 = .bool bb ∧ SS g sp w0 d3 wx)
            case first =>
              cases wb with
              | true =>
                cases wp with
                | true =>
                  go_wp2_with fail
                  go_meet
                  case rel => exact ⟨_, rfl, hS4⟩
                | false =>
                  go_wp2_with fail
                  go_meet
                  case rel => exact ⟨false, rfl, hS4⟩
              | false =>
                go_wp2_with fail
                go_meet
                case rel => exact ⟨false, rfl, hS4⟩
            case rest =>
              obtain ⟨bb, rfl, hS5⟩ := hcut
              clear hS4
              go_upto_if 68 with fail
              go_cut [13] (fun _ wx => ∃ d4 : Array Pr, SS g sp w0 d4 wx ∧ Hid (Pq n a b d x y d4))
              case first =>
                cases bb with
                | true =>
                  have hpi := Go.Sort.partialInsertionSort_holds ltP_swo d3 x y (by omega) (by rw [H3.out.size]; omega) H3.out.below
                  cases hr : (Go.Sort.partialInsertionSort ltP d3 x y).2 with
                  | true =>
                    have hf := Lib.hid (H3.out.fin _ hpi.1 (hpi.2 hr))
                    have hc := partialInsertionSort_any cap hS5 H3.out.size hn (a := x) (b := y) (by omega) (by omega)
                    rw [hr] at hc
                    clear hpi hr
                    go_wp2_with fail
                    refine hc.mono ?_
                    clear hc
                    rintro e w6 ⟨rfl, hS6⟩
                    go_wp2_with fail
                    (try simp only [Exit.inBlock, Exit.then])
                    refine bodyPost_ret (results_none rfl _ _ _) rfl ?_
                    exact ⟨rfl, _, hS6, hf.out⟩
                  | false =>
                    have hf := Lib.hid (H3.out.turn (by omega) hpi.1)
                    have hc := partialInsertionSort_any cap hS5 H3.out.size hn (a := x) (b := y) (by omega) (by omega)
                    rw [hr] at hc
                    clear hpi hr
                    go_wp2_with fail
                    refine hc.mono ?_
                    clear hc
                    rintro e w6 ⟨rfl, hS6⟩
                    go_wp2_with fail
                    go_meet
                    case rel => exact ⟨_, hS6, hf⟩
                | false =>
                  go_wp2_with fail
                  go_meet
                  case rel => exact ⟨_, hS5, H3⟩
              case rest =>
                obtain ⟨d4, hS6, H4⟩ := hcut
                clear hS5 H3
                go_upto_region 17 with fail
                go_cut [82] (fun s82 wx => s82 = .bool false ∧ SS g sp w0 d4 wx)
                case first =>
                  by_cases hx0 : 0 < x
                  · have hv := Lib.hid (H4.out.above (by omega) hx0 hq1 hq2)
                    go_wp2_with fail
                    refine (lessZ (x - 1) p2 true hS6 H4.out.size (by omega) (by omega) hv.out (by omega) rfl).mono ?_
                    rintro e w7 ⟨rfl, q, rfl⟩
                    go_wp2_with fail
                    go_meet
                    case rel => exact ⟨rfl, hS6.drewN _⟩
                  · go_wp2_with fail
                    go_meet
                    case rel => exact ⟨rfl, hS6⟩
                case rest =>
                  obtain ⟨rfl, hS7⟩ := hcut
                  clear hS6
                  go_wp2_with fail
                  refine (partition_any cap hS7 H4.out.size hn hq1 hq2 (by omega) (by omega)).mono ?_
                  rintro e w8 ⟨mid, ap, d5, rfl, hS8, hpt⟩
                  have am := hpt.am
                  have mb := hpt.mb
                  have HT := Lib.hid hpt
                  clear hpt hS7
                  go_wp2_with fail
                  · have LW := HT.out
                    have LQ := H4.out.low (by omega) LW
                    refine (ih x mid l2 _ _ _ d5 _ (by omega) rfl rfl rfl hl2 (by omega) (by omega) LQ.2.2.2 LQ.1 LQ.2.2.1 hS8).mono ?_
                    clear LW LQ
                    rintro e w9 ⟨rfl, dL, hS9, hL1, hL2⟩
                    have HN := Lib.hid (H4.out.left (by omega) HT.out hL1 hL2)
                    clear hL1 hL2
                    go_wp2_with fail
                    go_roundg (y - (mid + 1))
                    case measure => omega
                    case rel => exact ⟨mid + 1, y, l2, _, ap, dL, by go_num, rfl, rfl, rfl, rfl, by omega, by omega, by omega, hl2, Nat.le_refl _, hS9, HN⟩
                  · have LW := HT.out
                    have LQ := H4.out.low (by omega) LW
                    refine (ih (mid + 1) y l2 _ _ _ d5 _ (by omega) (by go_num) rfl rfl hl2 (by omega) (by omega) LQ.2.2.2 LQ.2.1 LQ.2.2.1 hS8).mono ?_
                    clear LW LQ
                    rintro e w9 ⟨rfl, dL, hS9, hL1, hL2⟩
                    have HN := Lib.hid (H4.out.right (by omega) HT.out hL1 hL2)
                    clear hL1 hL2
                    go_wp2_with fail
                    go_roundg (mid - x)
                    case measure => omega
                    case rel => exact ⟨x, mid, l2, _, ap, dL, rfl, rfl, rfl, rfl, rfl, by omega, by omega, by omega, hl2, Nat.le_refl _, hS9, HN⟩


theorem pdq_any {g n cap : Nat} {sp : List Value} {w0 : World} (hg : g < w0.heap.size) (hn : n ≤ 256) : ∀ k, PdqSaid g n cap sp w0 k
  | 0 => fun a b lim A B L d w hk => absurd hk (Nat.not_lt_zero _)
  | k + 1 => by
    intro a b lim A B L d w hk hA hB hL hl hab hb hd hbe hds hS
    subst hA hB hL
    exact pdq_step hg hn k (pdq_any hg hn k) a b lim d w hk hl hab hb hd hbe hds hS

set_option maxHeartbeats 400000 in
theorem len_any (g n cap : Nat) (w : World) : Calls Try.prog 119 #[.slice (some ⟨g, 0, none⟩) n cap] w fun e w' => e = .returned (.int .i64 n) ∧ w' = w := by
  go_enter Try.func119, Try.ntmps119
  go_wp2
  go_ret
  exact ⟨rfl, rfl⟩

def Sorted (g : Nat) (sp : List Value) (w0 : World) (d : Array Pr) (e : Ending) (w' : World) : Prop :=
  e = .returned (.tuple #[]) ∧ ∃ d' : Array Pr, SS g sp w0 d' w' ∧ d'.toList.Perm d.toList ∧ Asc d'.toList

theorem asc_of_sorted {d : Array Pr} (h : SortedIn ltP 0 d.size d) (hs : Dst d) : Asc d.toList := by
  refine List.pairwise_iff_getElem.2 fun i j hi hj hij => ?_
  have hi' : i < d.size := by simpa using hi
  have hj' : j < d.size := by simpa using hj
  have h1 := ltP_f.1 (h i j (Nat.zero_le _) hij hj')
  have h2 := hs.ne hi' hj' (by omega)
  rw [getElem!_pos d i hi', getElem!_pos d j hj'] at *
  simp only [Array.getElem_toList]
  exact show d[i].1.toNat < d[j].1.toNat by omega

set_option maxHeartbeats 2000000 in
set_option maxRecDepth 100000 in
/-- sort.Sort of a row of edges with distinct labels: the same edges, ascending. -/
theorem sort_any {g cap : Nat} {sp : List Value} {w : World} {d : Array Pr} (hg : g < w.heap.size) (hn : d.size ≤ 256) (hs : Dst d) (hS : SS g sp w d w) :
    Calls Try.prog 83 #[.iface 83 (.slice (some ⟨g, 0, none⟩) d.size cap)] w (Sorted g sp w d) := by
  have mN := m_len g d.size cap
  have mN2 := m_len2 g d.size cap
  by_cases h1 : d.size ≤ 1
  · have h1z : (d.size : Int) ≤ 1 := by omega
    have ha : Asc d.toList := asc_of_sorted (fun i j h2 h3 h4 => by omega) hs
    have HA := Lib.hid ha
    clear ha
    go_enter Try.func83, Try.ntmps83
    go_wp2_with fail
    refine (len_any _ _ _ _).mono ?_
    rintro e w' ⟨rfl, rfl⟩
    go_wp2_with fail
    (try simp only [Exit.inBlock, Exit.then])
    refine bodyPost_ret (results_none rfl _ _ _) rfl ?_
    exact ⟨rfl, d, hS, List.Perm.refl _, HA.out⟩
  · have h1z : ¬ (d.size : Int) ≤ 1 := by omega
    have hb := bitLen_two (x := d.size) (by omega) hn
    have HB := Lib.hid hb
    clear hb
    go_enter Try.func83, Try.ntmps83
    go_wp2_with fail
    refine (len_any _ _ _ _).mono ?_
    rintro e w' ⟨rfl, rfl⟩
    go_wp2_with fail
    refine (bitsLen_any _ _ (by omega) (by omega)).mono ?_
    rintro e w1 ⟨rfl, rfl⟩
    go_wp2_with fail
    refine (pdq_any hg hn (d.size + 1) 0 d.size (Lib.bitLen (d.size : Int).toNat) _ _ _ d _ (by omega) rfl rfl rfl (by have := HB.out; rw [Int.toNat_natCast]; omega) (Nat.zero_le _) (Nat.le_refl _) rfl (Or.inl rfl) hs hS).mono ?_
    rintro e w2 ⟨rfl, d', hS2, hp, hso⟩
    have hds := hs.perm hp (Nat.le_refl _)
    have hpl := perm_list hp (Nat.le_refl _)
    rw [← hp.1] at hso
    have HA := Lib.hid (asc_of_sorted hso hds)
    clear hp hso hds
    go_wp2_with fail
    go_end0
    exact ⟨rfl, d', hS2, hpl, HA.out⟩

end Go.Proofs.Ytaidaohkbbdimaa
