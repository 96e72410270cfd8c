/-
  The walks, part G: recursiveWalk, over any function value that is met with the rows one by one.
-/
import Derived.Test.YtaidaohkbbdimaaWA
import Derived.Test.YtaidaohkbbdimaaPure
import Derived.StillTailTactics
import Derived.Deep.CutRange
import Derived.IntWalk
import Derived.Deep.DeepCutAuto
namespace Go.Proofs.Ytaidaohkbbdimaa
open Go.RowKit

def At.num : At → Nat
  | .nil => 0
  | .cons _ _ _ _ _ k r => 1 + k.num + r.num

/-- What a visited function answers and leaves. -/
def Vis (I : World → List Rw → Prop) (b : Bool) (acc : List Rw) (e : Ending) (w' : World) : Prop := e = .returned (.bool b) ∧ I w' acc

/-- A function value that is met with rows: I tells what the rows met so far have left; stop: behind which rows it ends the walk. -/
structure Visitor (N : Nat) (g : Nat) (caps : Array Value) (stop : List Rw → Bool) (I : World → List Rw → Prop) : Prop where
  enters : ∀ args w, (callFunc g args).run Try.prog w = .ok (.enter g args) w
  bel : ∀ w w' acc, I w acc → Below w.heap.size w w' → I w' acc
  call : ∀ w acc (l : Lv), acc.length < N → I w acc → Calls Try.prog g (#[.string l.key, .iface 3 (.int .i64 l.val)] ++ caps) w (Vis I (stop (acc ++ [lrow l])) (acc ++ [lrow l]))

def Half (N : Nat) (stop : List Rw → Bool) (I : World → List Rw → Prop) (acc : List Rw) (n : An) (b : Bool) (a : List Rw) (w : World) : Prop :=
  (I w a ∧ a.length + n.kids.er.ents.length ≤ N) ∧ (b = true → vis stop acc n.er.ents = (a, true)) ∧ (b = false → vis stop acc n.er.ents = vis stop a n.kids.er.ents)
theorem Half.none {N : Nat} {stop : List Rw → Bool} {I : World → List Rw → Prop} {acc : List Rw} {n : An} {w : World} (h : n.lf = none) (hl : acc.length + n.er.ents.length ≤ N) (hI : I w acc) : Half N stop I acc n false acc w :=
  ⟨⟨hI, Nat.le_trans (by simp [Nd.ents, An.er]) hl⟩, (fun h => by cases h), fun _ => by
    show vis stop acc ((n.lf.map lrow).toList ++ n.kids.er.ents) = _
    rw [h]; rfl⟩
theorem Half.some {N : Nat} {stop : List Rw → Bool} {I : World → List Rw → Prop} {acc : List Rw} {n : An} {w : World} {l : Lv} (h : n.lf = some l) (hl : acc.length + n.er.ents.length ≤ N) (hI : I w (acc ++ [lrow l])) : Half N stop I acc n (stop (acc ++ [lrow l])) (acc ++ [lrow l]) w := by
  have e : n.er.ents = lrow l :: n.kids.er.ents := by
    show (n.lf.map lrow).toList ++ n.kids.er.ents = _
    rw [h]; rfl
  refine ⟨⟨hI, by rw [e] at hl; simp at hl ⊢; omega⟩, fun hb => ?_, fun hb => ?_⟩
  · rw [e, vis_cons, if_pos hb]
  · rw [e, vis_cons, if_neg (by rw [hb]; simp)]

/-- The walk stands ahead of the edge i. -/
structure Mid2 (N : Nat) (stop : List Rw → Bool) (I : World → List Rw → Prop) (acc : List Rw) (n : An) (k i : Nat) (T : At) (a : List Rw) (w : World) : Prop where
  ok : ∀ w acc, I w acc → T.ok w
  prs : T.prs = n.kids.prs.drop i
  num : T.num ≤ k
  vis : vis stop acc n.er.ents = Ytaidaohkbbdimaa.vis stop a T.er.ents
  inv : I w a
  len : a.length + T.er.ents.length ≤ N

theorem Mid2.start {N : Nat} {stop : List Rw → Bool} {I : World → List Rw → Prop} {acc a : List Rw} {n : An} {k : Nat} {w : World} (hok : ∀ w acc, I w acc → n.ok w) (hk : n.kids.num ≤ k) (h : Half N stop I acc n false a w) : Mid2 N stop I acc n k 0 n.kids a w :=
  ⟨fun w acc hI => (hok w acc hI).2, rfl, hk, h.2.2 rfl, h.1.1, h.1.2⟩
theorem row_len {w : World} {ev : Value} {ps : List Pr} (h : w.ownsRow 0 99 2 ev ps.length (prCells ps)) : ∃ a c, ev = .slice a ps.length c := by
  rcases row_cells h with ⟨h1, h2⟩ | ⟨g, cap, h1, _⟩
  · exact ⟨_, _, by rw [h1, h2]; rfl⟩
  · exact ⟨_, _, h1⟩
/-- The cells of an edge of a row whose value is known as a slice. -/
theorem row_at {w : World} {ps : List Pr} {A : Option Addr} {c i : Nat} (h : w.ownsRow 0 99 2 (.slice A ps.length c) ps.length (prCells ps)) (hi : i < ps.length) :
    ∃ g, A = some ⟨g, 0, none⟩ ∧ g < w.heap.size ∧ w.cell? ⟨g, i * 2, none⟩ = some (.int .u8 ps[i].1.toNat) ∧ w.cell? ⟨g, i * 2 + 1, none⟩ = some (.pointer (some ⟨ps[i].2, 0, none⟩)) := by
  rcases row_cells h with ⟨_, h2⟩ | ⟨g, cap, h1, _, hg, hcs⟩
  · rw [h2] at hi; simp at hi
  · injection h1 with h1
    exact ⟨g, h1, hg, hcs i hi⟩
theorem row_max {w : World} {ev : Value} {ps : List Pr} (h : w.ownsRow 0 99 2 ev ps.length (prCells ps)) : ps.length ≤ 9223372036854775807 := by
  rcases h.2 with ⟨_, h⟩ | ⟨_, cap', _, _, _, _, h1, h2, _⟩
  · omega
  · unfold maxLen at h2; omega

theorem Mid2.done {N : Nat} {stop : List Rw → Bool} {I : World → List Rw → Prop} {acc a : List Rw} {n : An} {k i : Nat} {T : At} {w : World} (h : Mid2 N stop I acc n k i T a w) (hi : n.kids.prs.length ≤ i) : Vis I (Ytaidaohkbbdimaa.vis stop acc n.er.ents).2 (Ytaidaohkbbdimaa.vis stop acc n.er.ents).1 (.returned (.bool false)) w := by
  have h1 := h.prs
  rw [List.drop_of_length_le hi] at h1
  have h2 := h.vis
  cases T with
  | nil => rw [h2]; exact ⟨rfl, h.inv⟩
  | cons => simp [At.prs] at h1
theorem Mid2.kid {N : Nat} {stop : List Rw → Bool} {I : World → List Rw → Prop} {acc a : List Rw} {n : An} {k i : Nat} {T : At} {w : World} (h : Mid2 N stop I acc n k i T a w) (hi : i < n.kids.prs.length) :
    ∃ (m : An) (r : At), (m.kids.num < k ∧ a.length + m.er.ents.length ≤ N) ∧ n.kids.prs[i].2 = m.id ∧ (∀ w acc, I w acc → m.ok w) ∧
      (∀ w', (Ytaidaohkbbdimaa.vis stop a m.er.ents).2 = true → I w' (Ytaidaohkbbdimaa.vis stop a m.er.ents).1 → Vis I (Ytaidaohkbbdimaa.vis stop acc n.er.ents).2 (Ytaidaohkbbdimaa.vis stop acc n.er.ents).1 (.returned (.bool true)) w') ∧
      (∀ w', (Ytaidaohkbbdimaa.vis stop a m.er.ents).2 = false → I w' (Ytaidaohkbbdimaa.vis stop a m.er.ents).1 → Mid2 N stop I acc n k (i + 1) r (Ytaidaohkbbdimaa.vis stop a m.er.ents).1 w') := by
  have h1 := h.prs
  rw [List.drop_eq_getElem_cons hi] at h1
  cases T with
  | nil =>
    have := congrArg List.length h1
    simp [At.prs] at this
    omega
  | cons id c lf pre ev kk r =>
    simp only [At.prs, List.cons.injEq] at h1
    have hnum := h.num
    simp only [At.num] at hnum
    have hv := h.vis
    have e : (At.cons id c lf pre ev kk r).er.ents = (An.er ⟨id, lf, pre, ev, kk⟩).ents ++ r.er.ents := by
      simp [At.er, Ed.ents, An.er, Nd.ents]
    have hlen := h.len
    rw [e, List.length_append] at hlen
    rw [e] at hv
    refine ⟨⟨id, lf, pre, ev, kk⟩, r, ⟨by simp only; omega, by omega⟩, by rw [← h1.1], fun w acc hI => ⟨(h.ok w acc hI).1, (h.ok w acc hI).2.1⟩, fun w' hb hI => ?_, fun w' hb hI => ?_⟩
    · rw [hv, vis_end _ hb]
      exact ⟨by rw [hb], hI⟩
    · exact ⟨fun w acc hI => (h.ok w acc hI).2.2, h1.2, by omega, by rw [hv, vis_on _ hb], hI, by
        have := vis_len stop (An.er ⟨id, lf, pre, ev, kk⟩).ents a
        omega⟩

set_option maxHeartbeats 2000000 in
set_option maxRecDepth 100000 in
theorem rwalk_any {N g : Nat} {caps : Array Value} {stop : List Rw → Bool} {I : World → List Rw → Prop} (V : Visitor N g caps stop I) (k : Nat) :
    ∀ (n : An) (w : World) (acc : List Rw), n.kids.num < k → acc.length + n.er.ents.length ≤ N → (∀ w acc, I w acc → n.ok w) → I w acc →
    Calls Try.prog 59 #[.pointer (some ⟨n.id, 0, none⟩), .func (.func g) #[] caps] w (Vis I (vis stop acc n.er.ents).2 (vis stop acc n.er.ents).1) := by
  induction k with
  | zero => intro n w acc hk; omega
  | succ k ih =>
    intro n w acc hk hle hok hI
    have hN := (hok w acc hI).1
    have k0 : w.cell? ⟨n.id, 0, none⟩ = some (lptr n.lf) := by rw [hN.blk.cell]; rfl
    obtain ⟨A, c, hev⟩ := row_len hN.row
    have hmx := row_max hN.row
    have HEV := Lib.hid hev
    have HLE := Lib.hid hle
    have HOK := Lib.hid hok
    have HIH := Lib.hid ih
    have HI := Lib.hid hI
    have HNN := Lib.hid hN
    have hent := V.enters
    have HV := Lib.hid V
    clear hok ih hI hN V hev hle
    go_enter Try.func59, Try.ntmps59
    go_upto_region 1 with fail
    go_cut [29] (fun v29 wx => ∃ (b : Bool) (a : List Rw), v29 = .bool b ∧ Hid (Half N stop I acc n b a wx))
    case first =>
      cases hlf : n.lf with
      | none =>
        rw [hlf] at k0
        have k0' : w.cell? ⟨n.id, 0, none⟩ = some (.pointer none) := k0
        have HH := Lib.hid (fun q => Half.none (N := N) (stop := stop) hlf HLE.out (HV.out.bel _ _ _ HI.out (below_drewN (Below.refl _ w) q)))
        clear hlf k0
        go_quiet (fail)
        go_wp2_with fail
        go_meet
        case rel => exact ⟨false, acc, rfl, HH.out _⟩
      | some l =>
        rw [hlf] at k0
        have k0' : w.cell? ⟨n.id, 0, none⟩ = some (.pointer (some ⟨l.id, 0, none⟩)) := k0
        have hL : Bk w l.id 94 #[.string l.key, boxv l.val] := by have := HNN.out.leaf; rw [hlf] at this; exact this
        have k3 : w.cell? ⟨l.id, 0, none⟩ = some (.string l.key) := by rw [hL.cell]; rfl
        have k4 : w.cell? ⟨l.id, 1, none⟩ = some (.iface 3 (.int .i64 l.val)) := by rw [hL.cell]; rfl
        have hlt : acc.length < N := by
          have hle := HLE.out
          have e : n.er.ents = lrow l :: n.kids.er.ents := by
            show (n.lf.map lrow).toList ++ n.kids.er.ents = _
            rw [hlf]; rfl
          rw [e] at hle; simp at hle; omega
        have hC := HV.out.call w.drew acc l hlt (HV.out.bel _ _ _ HI.out (below_drewN (Below.refl _ w) 1))
        have HLF := Lib.hid hlf
        clear hlf hL k0
        go_still_tail 21, (by kernel_rfl)
        change wpList _ _ _ _ _ w.drew
        go_wp2_with fail
        refine hC.mono ?_
        clear hC
        rintro e w' ⟨rfl, hI'⟩
        have HI' := Lib.hid hI'
        clear hI'
        go_wp2_with fail
        go_meet
        case rel => exact ⟨_, _, rfl, Half.some HLF.out HLE.out HI'.out⟩
    case rest =>
      obtain ⟨b, a, hs, HH⟩ := hcut
      subst hs
      clear k0
      cases b with
      | true =>
        have HR : Hid (Vis I (vis stop acc n.er.ents).2 (vis stop acc n.er.ents).1 (.returned (.bool true)) wc) := by
          have h := HH.out
          have e := h.2.1 rfl
          exact Lib.hid (by rw [e]; exact ⟨rfl, h.1.1⟩)
        go_wp2_with fail
        go_ret
        exact HR.out
      | false =>
        have k2 : wc.cell? ⟨n.id, 2, none⟩ = some (.slice A n.kids.prs.length c) := by rw [(HOK.out _ _ HH.out.1.1).1.blk.cell, HEV.out]; rfl
        have hlen0 : (0 : Int) ≤ (n.kids.prs.length : Int) := by omega
        have HS := Lib.hid (Mid2.start HOK.out (Nat.lt_succ_iff.1 hk) HH.out)
        obtain ⟨L, hL⟩ : ∃ L, L = n.kids.prs.length := ⟨_, rfl⟩
        rw [← hL] at k2 hmx hlen0
        have HLL := Lib.hid hL
        clear hL
        go_wp2_with fail
        go_loopg [35] L (fun gst v35 wr => ∃ (i : Nat) (T : At) (a : List Rw), v35 = .int .i64 i ∧ i ≤ L ∧ L - i ≤ gst ∧ Hid (Mid2 N stop I acc n k i T a wr))
        case atStart => exact ⟨0, _, _, rfl, Nat.zero_le _, by omega, HS⟩
        case round =>
          obtain ⟨i, T, a, rfl, hiL, hg, HM⟩ := hrel
          by_cases hi : i < L
          · have hi2 : i < n.kids.prs.length := by have := HLL.out; omega
            obtain ⟨m, r, hmk, hid, hmok, hT, hF⟩ := HM.out.kid hi2
            have hrow := (HOK.out _ _ HM.out.inv).1.row
            rw [HEV.out] at hrow
            obtain ⟨g0, hA, hg0, k5, k6⟩ := row_at hrow hi2
            rw [hid] at k6
            subst hA
            have HMK := Lib.hid hmk
            have HMO := Lib.hid hmok
            have HT := Lib.hid hT
            have HF := Lib.hid hF
            generalize n.kids.prs[i].1.toNat = lab at k5
            clear hid hmk hmok hT hF hrow
            have hii : decide ((i : Int) < (L : Int)) = true := by simpa using hi
            go_wp2_with fail
            refine (HIH.out m _ a HMK.out.1 HMK.out.2 HMO.out (HV.out.bel _ _ _ HM.out.inv ((Below.refl _ wr).alloc (Nat.le_refl _) _))).mono ?_
            rintro e w' ⟨rfl, hI'⟩
            have HI' := Lib.hid hI'
            clear hI'
            cases hb : (vis stop a m.er.ents).2 with
            | true =>
              have HD := Lib.hid (HT.out _ hb HI'.out)
              clear hb
              go_wp2_with fail
              go_ret
              exact HD.out
            | false =>
              have HD := Lib.hid (HF.out _ hb HI'.out)
              clear hb
              have hw1 : IntKind.i64.wrap ((i : Int) + 1) = (i : Int) + 1 := IntWalk.i64_in _ (by omega)
              go_wp2_with fail
              go_roundg (L - (i + 1))
              case measure => omega
              case rel => exact ⟨i + 1, r, _, by go_num, by omega, Nat.le_refl _, HD⟩
          · have HD := Lib.hid (HM.out.done (by have := HLL.out; omega))
            go_wp2_with fail
            go_ret
            exact HD.out

end Go.Proofs.Ytaidaohkbbdimaa
