/-
  The walks, part I: the methods of a tree that meet a function value with entries: Walk, WalkPrefix, WalkPath; Len.
  The walks, part J: the methods of a tree that meet a function value with entries: WalkPath.
-/
import Derived.Test.YtaidaohkbbdimaaWD
import Derived.Test.YtaidaohkbbdimaaWG
namespace Go.Proofs.Ytaidaohkbbdimaa
open Go.RowKit

/-- What a walk leaves. -/
def Ran (I : World → List Rw → Prop) (acc : List Rw) (e : Ending) (w' : World) : Prop := e = .returned (.tuple #[]) ∧ I w' acc

set_option maxHeartbeats 1000000 in
theorem treeLen_any {w : World} {t : Nat} {n : An} (h : Tr w t n) :
    Calls Try.prog 43 #[.pointer (some ⟨t, 0, none⟩)] w fun e w' => e = .returned (.int .i64 n.er.ents.length) ∧ w' = w := by
  have c1 : w.cell? ⟨t, 1, none⟩ = some (.int .i64 n.er.ents.length) := by rw [h.blk.cell]; rfl
  clear h
  go_enter Try.func43, Try.ntmps43
  go_wp2_with fail
  go_ret
  exact ⟨rfl, rfl⟩

set_option maxHeartbeats 1000000 in
theorem walk_any {w : World} {t N g : Nat} {n : An} {caps : Array Value} {stop : List Rw → Bool} {I : World → List Rw → Prop} {acc : List Rw} (V : Visitor N g caps stop I) (hI : I w acc) (hok : ∀ w acc, I w acc → Tr w t n) (hN : acc.length + n.er.ents.length ≤ N) :
    Calls Try.prog 41 #[.pointer (some ⟨t, 0, none⟩), .func (.func g) #[] caps] w (Ran I (vis stop acc n.er.ents).1) := by
  have c0 : w.cell? ⟨t, 0, none⟩ = some (.pointer (some ⟨n.id, 0, none⟩)) := by rw [(hok _ _ hI).blk.cell]; rfl
  have hR := rwalk_any V (n.kids.num + 1) n w acc (by omega) hN (fun w acc h => (hok w acc h).ok) hI
  clear hN hok hI V
  go_enter Try.func41, Try.ntmps41
  go_wp2_with fail
  refine hR.mono ?_
  clear hR
  rintro e w' ⟨rfl, hI'⟩
  have HI := Lib.hid hI'
  clear hI'
  go_wp2_with fail
  go_end0
  exact ⟨rfl, HI.out⟩

/-! ### What is under a text -/
theorem und_at {sub : An} : sub.er.und [] = sub.er.ents := by unfold Nd.und; rw [if_pos rfl]
theorem und_cons {sub : An} {c : UInt8} {S' : Bs} : sub.er.und (c :: S') = sub.er.kids.und (c :: S') := by unfold Nd.und; rw [if_neg (by simp)]
theorem und_none {sub : An} {c : UInt8} {S' : Bs} (hf : sub.kids.find c = none) : sub.er.und (c :: S') = [] := by
  rw [und_cons]; exact Ed.und_none (er_find hf)
theorem und_step {sub a : An} {c : UInt8} {S' : Bs} (hf : sub.kids.find c = some a) (hp : a.er.pre.isPrefixOf (c :: S') = true) : sub.er.und (c :: S') = a.er.und ((c :: S').drop a.er.pre.length) := by
  rw [und_cons, Ed.und_some (er_find hf), if_pos hp]
theorem und_top {sub a : An} {c : UInt8} {S' : Bs} (hf : sub.kids.find c = some a) (hp : a.er.pre.isPrefixOf (c :: S') = false) (hq : (c :: S').isPrefixOf a.er.pre = true) : sub.er.und (c :: S') = a.er.ents := by
  rw [und_cons, Ed.und_some (er_find hf), if_neg (by rw [hp]; simp), if_pos hq]
theorem und_off {sub a : An} {c : UInt8} {S' : Bs} (hf : sub.kids.find c = some a) (hp : a.er.pre.isPrefixOf (c :: S') = false) (hq : (c :: S').isPrefixOf a.er.pre = false) : sub.er.und (c :: S') = [] := by
  rw [und_cons, Ed.und_some (er_find hf), if_neg (by rw [hp]; simp), if_neg (by rw [hq]; simp)]
theorem und_len {n : An} (h : n.er.wf []) (s : Bs) : (n.er.und s).length ≤ n.er.ents.length := by
  rw [Nd.und_ok h]; exact List.length_filter_le _ _

set_option maxHeartbeats 4000000 in
set_option maxRecDepth 100000 in
theorem walkPrefix_any {w : World} {t N g : Nat} {n : An} {caps : Array Value} {stop : List Rw → Bool} {I : World → List Rw → Prop} {acc : List Rw} (s : ByteArray) (V : Visitor N g caps stop I) (hI : I w acc) (hok : ∀ w acc, I w acc → Tr w t n) (hN : acc.length + n.er.ents.length ≤ N) :
    Calls Try.prog 50 #[.pointer (some ⟨t, 0, none⟩), .string s, .func (.func g) #[] caps] w (Ran I (vis stop acc (n.er.und s.data.toList)).1) := by
  have h := hok _ _ hI
  have ht := h.blk.lt
  have c0 : w.cell? ⟨t, 0, none⟩ = some (.pointer (some ⟨n.id, 0, none⟩)) := by rw [h.blk.cell]; rfl
  have HT := Lib.hid h
  have HI := Lib.hid hI
  have HK := Lib.hid hok
  have HV := Lib.hid V
  have HN := Lib.hid (Nat.le_trans (Nat.add_le_add_left (und_len h.wf s.data.toList) acc.length) hN)
  clear h hI hok V hN
  go_enter Try.func50, Try.ntmps50
  go_wp2_with fail
  go_loopg [6, 7] (s.size) (fun g0 v6 v7 wr => ∃ (sub : An) (p : Bs) (S : ByteArray), v6 = .pointer (some ⟨sub.id, 0, none⟩) ∧ v7 = .string S ∧ S.size ≤ g0 ∧ Below w.heap.size w wr ∧ Hid (Dn w n sub s.data.toList p S.data.toList) ∧ Hid (n.er.und s.data.toList = sub.er.und S.data.toList) ∧ Hid (∀ w, n.ok w → sub.ok w))
  case atStart => exact ⟨n, [], s, rfl, rfl, Nat.le_refl _, Below.refl _ _, Dn.refl HT.out _, (rfl : n.er.und s.data.toList = n.er.und s.data.toList), fun _ h => h⟩
  case round =>
    obtain ⟨sub, p, S, rfl, rfl, hg, hb, HD, HU, HO⟩ := hrel
    have hN := (HD.out.bel hb).ok.1
    by_cases h0 : S.size = 0
    · have hu : n.er.und s.data.toList = sub.er.ents := by rw [HU.out, ba_nil S h0, und_at]
      have hR := rwalk_any HV.out (sub.kids.num + 1) sub wr acc (by omega) (by rw [← hu]; exact HN.out) (fun w acc h => HO.out w (HK.out w acc h).ok) (HV.out.bel _ _ _ HI.out hb)
      rw [← hu] at hR
      clear hu hN
      go_wp2_with fail
      refine hR.mono ?_
      clear hR
      rintro e w' ⟨rfl, hI'⟩
      have HI' := Lib.hid hI'
      clear hI'
      go_wp2_with fail
      go_end0
      exact ⟨rfl, HI'.out⟩
    · have h0' : ((S.size : Int) == 0) = false := by rw [beq_eq_false_iff_ne]; omega
      have h0p : 0 < S.size := by omega
      obtain ⟨S', hS⟩ := ba_head S h0p
      rw [hS] at HD HU
      have hE := getEdge_any S[0] hN (At.asc HD.out.wf.2)
      rw [At.prs_find] at hE
      cases hf : sub.kids.find S[0] with
      | none =>
        rw [hf] at hE
        have HR : Hid (n.er.und s.data.toList = []) := Lib.hid (by rw [HU.out]; exact und_none hf)
        clear hf hN hS
        go_wp2_with fail
        refine hE.mono ?_
        rintro e w' ⟨rfl, hb'⟩
        simp only [Option.map_none, optp]
        go_wp2_with fail
        go_end0
        exact ⟨rfl, by rw [HR.out]; exact HV.out.bel _ _ _ HI.out (hb.trans (hb'.mono hb.size))⟩
      | some a =>
        rw [hf] at hE
        obtain ⟨ha, ⟨t0, hpre⟩, _, _, _⟩ := (HD.out.bel hb).kid hf
        have hao : ∀ w, n.ok w → a.ok w := fun w h => (At.focus hf).2.1 w (HO.out w h).2
        have HAO := Lib.hid hao
        have hpl : 0 < a.pre.size := by rw [← ba_len, show a.pre.data.toList = _ from hpre]; simp
        have HPR := Lib.hid hpre
        clear hao hpre
        cases hp : a.pre.data.toList.isPrefixOf S.data.toList with
        | false =>
          cases hq : S.data.toList.isPrefixOf a.pre.data.toList with
          | false =>
            have HR : Hid (n.er.und s.data.toList = []) := Lib.hid (by rw [HU.out]; exact und_off hf (by rw [← hS]; exact hp) (by rw [← hS]; exact hq))
            clear hf hN hS
            go_wp2_with fail
            refine hE.mono ?_
            rintro e w' ⟨rfl, hb'⟩
            have k1 : w'.cell? ⟨a.id, 1, none⟩ = some (.string a.pre) := by rw [(An.bel ha hb').1.blk.cell]; rfl
            have hP := hasPrefix_any S a.pre w'
            have hQ := hasPrefix_any a.pre S w'
            rw [hp] at hP
            rw [hq] at hQ
            simp only [Option.map_some, optp]
            clear hp hq
            go_wp2_with fail
            refine hP.mono ?_
            rintro e w2 ⟨rfl, hw⟩
            subst w2
            go_wp2_with fail
            refine hQ.mono ?_
            rintro e w2 ⟨rfl, hw⟩
            subst w2
            go_wp2_with fail
            go_end0
            exact ⟨rfl, by rw [HR.out]; exact HV.out.bel _ _ _ HI.out (hb.trans (hb'.mono hb.size))⟩
          | true =>
            have hu : n.er.und s.data.toList = a.er.ents := by rw [HU.out]; exact und_top hf (by rw [← hS]; exact hp) (by rw [← hS]; exact hq)
            have HR := Lib.hid hu
            clear hf hN hS hu
            go_wp2_with fail
            refine hE.mono ?_
            rintro e w' ⟨rfl, hb'⟩
            have k1 : w'.cell? ⟨a.id, 1, none⟩ = some (.string a.pre) := by rw [(An.bel ha hb').1.blk.cell]; rfl
            have hP := hasPrefix_any S a.pre w'
            have hQ := hasPrefix_any a.pre S w'
            rw [hp] at hP
            rw [hq] at hQ
            have hRW := rwalk_any HV.out (a.kids.num + 1) a w' acc (by omega) (by rw [← HR.out]; exact HN.out) (fun w acc h => HAO.out w (HK.out w acc h).ok) (HV.out.bel _ _ _ HI.out (hb.trans (hb'.mono hb.size)))
            rw [← HR.out] at hRW
            simp only [Option.map_some, optp]
            clear hp hq
            go_wp2_with fail
            refine hP.mono ?_
            rintro e w2 ⟨rfl, hw⟩
            subst w2
            go_wp2_with fail
            refine hQ.mono ?_
            rintro e w2 ⟨rfl, hw⟩
            subst w2
            go_wp2_with fail
            refine hRW.mono ?_
            clear hRW
            rintro e w2 ⟨rfl, hI'⟩
            have HI' := Lib.hid hI'
            clear hI'
            go_wp2_with fail
            go_end0
            exact ⟨rfl, HI'.out⟩
        | true =>
          have hle : a.pre.size ≤ S.size := by
            obtain ⟨u, hu⟩ := pfx_iff.1 hp
            have := congrArg List.length hu
            rw [List.length_append, ba_len, ba_len] at this
            omega
          have hpp : a.er.pre.isPrefixOf (S[0] :: S') = true := by rw [← hS]; exact hp
          have HD2 := Lib.hid (HD.out.step hf hpp)
          have HU2 := Lib.hid (HU.out.trans (und_step hf hpp))
          have hdr : (S[0] :: S').drop a.er.pre.length = (S.extract a.pre.size S.size).data.toList := by
            rw [ba_drop, ← hS]; show List.drop a.pre.data.toList.length _ = _; rw [ba_len]
          rw [hdr] at HD2 HU2
          clear hf hN hS hdr hpp
          go_wp2_with fail
          refine hE.mono ?_
          rintro e w' ⟨rfl, hb'⟩
          have k1 : w'.cell? ⟨a.id, 1, none⟩ = some (.string a.pre) := by rw [(An.bel ha hb').1.blk.cell]; rfl
          have hP := hasPrefix_any S a.pre w'
          rw [hp] at hP
          simp only [Option.map_some, optp]
          clear hp
          go_wp2_with fail
          refine hP.mono ?_
          rintro e w2 ⟨rfl, hw⟩
          subst w2
          go_wp2_with fail
          go_roundg (S.size - a.pre.size)
          case measure => omega
          case rel => exact ⟨a, _, S.extract a.pre.size S.size, rfl, rfl, by simp, hb.trans (hb'.mono hb.size), HD2, HU2, HAO⟩

end Go.Proofs.Ytaidaohkbbdimaa

namespace Go.Proofs.Ytaidaohkbbdimaa
open Go.RowKit

theorem abv_cons {sub : An} {S : Bs} : sub.er.abv S = (sub.lf.map lrow).toList ++ sub.er.kids.abv S := rfl
theorem abv_len {n : An} (h : n.er.wf []) (s : Bs) : (n.er.abv s).length ≤ n.er.ents.length := by
  rw [Nd.abv_ok h]; exact List.length_filter_le _ _

/-- At a node's own entry: whether it ends the walk, and what is ahead. -/
def At1 (N : Nat) (stop : List Rw → Bool) (I : World → List Rw → Prop) (acc0 all : List Rw) (sub : An) (S : Bs) (b : Bool) (a : List Rw) (w : World) : Prop :=
  (I w a ∧ (b = false → a.length + (sub.er.kids.abv S).length ≤ N)) ∧ (b = true → vis stop acc0 all = (a, true)) ∧ (b = false → vis stop acc0 all = vis stop a (sub.er.kids.abv S))
theorem At1.none {N : Nat} {stop : List Rw → Bool} {I : World → List Rw → Prop} {acc0 all a : List Rw} {sub : An} {S : Bs} {w : World} (h : sub.lf = none) (he : vis stop acc0 all = vis stop a (sub.er.abv S)) (hl : a.length + (sub.er.abv S).length ≤ N) (hI : I w a) : At1 N stop I acc0 all sub S false a w := by
  rw [abv_cons, h] at he hl
  exact ⟨⟨hI, fun _ => by simpa using hl⟩, (fun h => by cases h), fun _ => he⟩
theorem At1.some {N : Nat} {stop : List Rw → Bool} {I : World → List Rw → Prop} {acc0 all a : List Rw} {sub : An} {S : Bs} {w : World} {l : Lv} (h : sub.lf = some l) (he : vis stop acc0 all = vis stop a (sub.er.abv S)) (hl : a.length + (sub.er.abv S).length ≤ N) (hI : I w (a ++ [lrow l])) :
    At1 N stop I acc0 all sub S (stop (a ++ [lrow l])) (a ++ [lrow l]) w := by
  rw [abv_cons, h] at he hl
  simp only [Option.map_some, Option.toList_some, List.cons_append, List.nil_append] at he hl
  refine ⟨⟨hI, fun _ => by simp at hl ⊢; omega⟩, fun hb => ?_, fun hb => ?_⟩
  · rw [he, vis_cons, if_pos hb]
  · rw [he, vis_cons, if_neg (by rw [hb]; simp)]
theorem At1.fin {N : Nat} {stop : List Rw → Bool} {I : World → List Rw → Prop} {acc0 all a : List Rw} {sub : An} {S : Bs} {w w' : World} (V : ∀ w w' acc, I w acc → Below w.heap.size w w' → I w' acc) (h : At1 N stop I acc0 all sub S false a w) (hb : Below w.heap.size w w') (he : sub.er.kids.abv S = []) : I w' (vis stop acc0 all).1 := by
  rw [h.2.2 rfl, he]; exact V _ _ _ h.1.1 hb
theorem kabv_none {sub : An} {c : UInt8} {S' : Bs} (hf : sub.kids.find c = none) : sub.er.kids.abv (c :: S') = [] := Ed.abv_none (er_find hf)
theorem kabv_off {sub a : An} {c : UInt8} {S' : Bs} (hf : sub.kids.find c = some a) (hp : a.er.pre.isPrefixOf (c :: S') = false) : sub.er.kids.abv (c :: S') = [] := by
  rw [Ed.abv_some (er_find hf), if_neg (by rw [hp]; simp)]
theorem kabv_step {sub a : An} {c : UInt8} {S' : Bs} (hf : sub.kids.find c = some a) (hp : a.er.pre.isPrefixOf (c :: S') = true) : sub.er.kids.abv (c :: S') = a.er.abv ((c :: S').drop a.er.pre.length) := by
  rw [Ed.abv_some (er_find hf), if_pos hp]

set_option maxHeartbeats 4000000 in
set_option maxRecDepth 100000 in
theorem walkPath_any {w : World} {t N g : Nat} {n : An} {caps : Array Value} {stop : List Rw → Bool} {I : World → List Rw → Prop} {acc : List Rw} (s : ByteArray) (V : Visitor N g caps stop I) (hI : I w acc) (hok : ∀ w acc, I w acc → Tr w t n) (hN : acc.length + n.er.ents.length ≤ N) :
    Calls Try.prog 56 #[.pointer (some ⟨t, 0, none⟩), .string s, .func (.func g) #[] caps] w (Ran I (vis stop acc (n.er.abv s.data.toList)).1) := by
  have h := hok _ _ hI
  have ht := h.blk.lt
  have c0 : w.cell? ⟨t, 0, none⟩ = some (.pointer (some ⟨n.id, 0, none⟩)) := by rw [h.blk.cell]; rfl
  have HT := Lib.hid h
  have HI := Lib.hid hI
  have HK := Lib.hid hok
  have hent := V.enters
  have HV := Lib.hid V
  have HN := Lib.hid (Nat.le_trans (Nat.add_le_add_left (abv_len h.wf s.data.toList) acc.length) hN)
  clear h hI hok V hN
  go_enter Try.func56, Try.ntmps56
  go_wp2_with fail
  go_loopg [6, 7] (s.size) (fun g0 v6 v7 wr => ∃ (sub : An) (p : Bs) (S : ByteArray) (a : List Rw), v6 = .pointer (some ⟨sub.id, 0, none⟩) ∧ v7 = .string S ∧ S.size ≤ g0 ∧ Hid (I wr a) ∧ Hid (Dn wr n sub s.data.toList p S.data.toList) ∧ Hid (vis stop acc (n.er.abv s.data.toList) = vis stop a (sub.er.abv S.data.toList)) ∧ Hid (∀ w, n.ok w → sub.ok w) ∧ Hid (a.length + (sub.er.abv S.data.toList).length ≤ N))
  case atStart => exact ⟨n, [], s, acc, rfl, rfl, Nat.le_refl _, HI, Dn.refl HT.out _, (rfl : vis stop acc (n.er.abv s.data.toList) = vis stop acc (n.er.abv s.data.toList)), (fun _ h => h : ∀ w, n.ok w → n.ok w), HN⟩
  case round =>
    obtain ⟨sub, p, S, a, rfl, rfl, hg, HIa, HD, HU, HO, HL⟩ := hrel
    have hN := HD.out.ok.1
    have k0 : wr.cell? ⟨sub.id, 0, none⟩ = some (lptr sub.lf) := by rw [hN.blk.cell]; rfl
    clear hN
    go_upto_region 2 with fail
    go_cut [35] (fun v35 wx => ∃ (b : Bool) (a' : List Rw), v35 = .bool b ∧ Hid (At1 N stop I acc (n.er.abv s.data.toList) sub S.data.toList b a' wx))
    case first =>
      cases hlf : sub.lf with
      | none =>
        rw [hlf] at k0
        have k0' : wr.cell? ⟨sub.id, 0, none⟩ = some (.pointer none) := k0
        have HH := Lib.hid (fun q => At1.none hlf HU.out HL.out (HV.out.bel _ _ _ HIa.out (below_drewN (Below.refl _ wr) q)))
        clear hlf k0
        go_quiet (fail)
        go_wp2_with fail
        go_meet
        case rel => exact ⟨false, a, rfl, HH.out _⟩
      | some l =>
        rw [hlf] at k0
        have k0' : wr.cell? ⟨sub.id, 0, none⟩ = some (.pointer (some ⟨l.id, 0, none⟩)) := k0
        have hL : Bk wr l.id 94 #[.string l.key, boxv l.val] := by have := HD.out.ok.1.leaf; rw [hlf] at this; exact this
        have k3 : wr.cell? ⟨l.id, 0, none⟩ = some (.string l.key) := by rw [hL.cell]; rfl
        have k4 : wr.cell? ⟨l.id, 1, none⟩ = some (.iface 3 (.int .i64 l.val)) := by rw [hL.cell]; rfl
        have hlt : a.length < N := by
          have hle := HL.out
          rw [abv_cons, hlf] at hle; simp at hle; omega
        have hC := HV.out.call wr.drew a l hlt (HV.out.bel _ _ _ HIa.out (below_drewN (Below.refl _ wr) 1))
        have HLF := Lib.hid hlf
        clear hlf hL k0 hlt
        go_still_tail 21, (by kernel_rfl)
        change wpList _ _ _ _ _ wr.drew
        go_wp2_with fail
        refine hC.mono ?_
        clear hC
        rintro e w' ⟨rfl, hI'⟩
        have HI' := Lib.hid hI'
        clear hI'
        go_wp2_with fail
        go_meet
        case rel => exact ⟨_, _, rfl, At1.some HLF.out HU.out HL.out HI'.out⟩
    case rest =>
      obtain ⟨b, a', hs, HH⟩ := hcut
      subst hs
      clear k0
      cases b with
      | true =>
        have HR : Hid (Ran I (vis stop acc (n.er.abv s.data.toList)).1 (.returned (.tuple #[])) wc) := by
          have h := HH.out
          have e := h.2.1 rfl
          exact Lib.hid (by rw [e]; exact ⟨rfl, h.1.1⟩)
        go_wp2_with fail
        go_end0
        exact HR.out
      | false =>
        have hsub := HO.out wc (HK.out _ _ HH.out.1.1).ok
        have hN := hsub.1
        by_cases h0 : S.size = 0
        · have HR := Lib.hid (HH.out.fin HV.out.bel (Below.refl _ wc) (by rw [ba_nil S h0]; exact Ed.abv_nil))
          clear hN hsub
          go_wp2_with fail
          go_end0
          exact ⟨rfl, HR.out⟩
        · have h0' : ((S.size : Int) == 0) = false := by rw [beq_eq_false_iff_ne]; omega
          have h0p : 0 < S.size := by omega
          obtain ⟨S', hS⟩ := ba_head S h0p
          rw [hS] at HD HH HL HU
          have hE := getEdge_any S[0] hN (At.asc HD.out.wf.2)
          rw [At.prs_find] at hE
          cases hf : sub.kids.find S[0] with
          | none =>
            rw [hf] at hE
            have HR := Lib.hid (fun w' hb => HH.out.fin (w' := w') HV.out.bel hb (kabv_none hf))
            clear hf hN hsub hS
            go_wp2_with fail
            refine hE.mono ?_
            rintro e w' ⟨rfl, hb'⟩
            simp only [Option.map_none, optp]
            go_wp2_with fail
            go_end0
            exact ⟨rfl, HR.out _ hb'⟩
          | some m =>
            rw [hf] at hE
            have hDc : Dn wc n sub s.data.toList p (S[0] :: S') := ⟨hsub, HD.out.key, HD.out.get, HD.out.wf, HD.out.dep⟩
            obtain ⟨ha, ⟨t0, hpre⟩, _, _, _⟩ := hDc.kid hf
            have hao : ∀ w, n.ok w → m.ok w := fun w h => (At.focus hf).2.1 w (HO.out w h).2
            have HAO := Lib.hid hao
            have HDc := Lib.hid hDc
            have hpl : 0 < m.pre.size := by rw [← ba_len, show m.pre.data.toList = _ from hpre]; simp
            have HPR := Lib.hid hpre
            clear hao hpre hDc
            cases hp : m.pre.data.toList.isPrefixOf S.data.toList with
            | false =>
              have HR := Lib.hid (fun w' hb => HH.out.fin (w' := w') HV.out.bel hb (kabv_off hf (by rw [← hS]; exact hp)))
              clear hf hN hsub hS
              go_wp2_with fail
              refine hE.mono ?_
              rintro e w' ⟨rfl, hb'⟩
              have k1 : w'.cell? ⟨m.id, 1, none⟩ = some (.string m.pre) := by rw [(An.bel ha hb').1.blk.cell]; rfl
              have hP := hasPrefix_any S m.pre w'
              rw [hp] at hP
              simp only [Option.map_some, optp]
              clear hp
              go_wp2_with fail
              refine hP.mono ?_
              rintro e w2 ⟨rfl, hw⟩
              subst w2
              go_wp2_with fail
              go_end0
              exact ⟨rfl, HR.out _ hb'⟩
            | true =>
              have hle : m.pre.size ≤ S.size := by
                obtain ⟨u, hu⟩ := pfx_iff.1 hp
                have := congrArg List.length hu
                rw [List.length_append, ba_len, ba_len] at this
                omega
              have hpp : m.er.pre.isPrefixOf (S[0] :: S') = true := by rw [← hS]; exact hp
              have HD2 := Lib.hid (HDc.out.step hf hpp)
              have hst := kabv_step hf hpp
              have HU2 := Lib.hid (HH.out.2.2 rfl)
              have HL2 := Lib.hid (HH.out.1.2 rfl)
              rw [hst] at HU2 HL2
              have hdr : (S[0] :: S').drop m.er.pre.length = (S.extract m.pre.size S.size).data.toList := by
                rw [ba_drop, ← hS]; show List.drop m.pre.data.toList.length _ = _; rw [ba_len]
              rw [hdr] at HD2 HU2 HL2
              clear hf hN hsub hS hdr hpp hst
              go_wp2_with fail
              refine hE.mono ?_
              rintro e w' ⟨rfl, hb'⟩
              have k1 : w'.cell? ⟨m.id, 1, none⟩ = some (.string m.pre) := by rw [(An.bel ha hb').1.blk.cell]; rfl
              have hP := hasPrefix_any S m.pre w'
              rw [hp] at hP
              simp only [Option.map_some, optp]
              clear hp
              go_wp2_with fail
              refine hP.mono ?_
              rintro e w2 ⟨rfl, hw⟩
              subst w2
              go_wp2_with fail
              go_roundg (S.size - m.pre.size)
              case measure => omega
              case rel => exact ⟨m, _, S.extract m.pre.size S.size, a', rfl, rfl, by simp, HV.out.bel _ _ _ HH.out.1.1 hb', HD2.out.bel hb', HU2, HAO, HL2⟩

end Go.Proofs.Ytaidaohkbbdimaa
