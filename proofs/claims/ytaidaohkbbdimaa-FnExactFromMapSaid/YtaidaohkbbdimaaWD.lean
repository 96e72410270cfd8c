/-
  The walks, part D: the methods of a tree: down the tree; Get.
  The walks, part D2: the methods of a tree: LongestPrefix.
  The walks, part D3: the methods of a tree: Minimum, Maximum.
-/
import Derived.Test.YtaidaohkbbdimaaWC
import Derived.Test.YtaidaohkbbdimaaPure
namespace Go.Proofs.Ytaidaohkbbdimaa
open Go.RowKit

/-- A tree in memory. -/
structure Tr (w : World) (t : Nat) (n : An) : Prop where
  blk : Bk w t 87 #[.pointer (some ⟨n.id, 0, none⟩), .int .i64 n.er.ents.length]
  ok : n.ok w
  nodup : n.foot.Nodup
  wf : n.er.wf []
  dep : n.er.kids.dep 1000 0

theorem Tr.bel {w w' : World} {t : Nat} {n : An} (h : Tr w t n) (hb : Below w.heap.size w w') : Tr w' t n :=
  ⟨h.blk.of (hb.block t h.blk.lt), An.bel h.ok hb, h.nodup, h.wf, h.dep⟩

/-- Down the tree: the node 'sub' stands at the text p, S is what is still sought. -/
structure Dn (w : World) (root sub : An) (s p S : Bs) : Prop where
  ok : sub.ok w
  key : s = p ++ S
  get : root.er.get s = sub.er.get S
  wf : sub.er.wf p
  dep : sub.er.kids.dep 1000 p.length

theorem Dn.refl {w : World} {t : Nat} {n : An} (h : Tr w t n) (s : Bs) : Dn w n n s [] s := ⟨h.ok, rfl, rfl, h.wf, h.dep⟩
theorem Dn.bel {w w' : World} {root sub : An} {s p S : Bs} (h : Dn w root sub s p S) (hb : Below w.heap.size w w') : Dn w' root sub s p S := ⟨An.bel h.ok hb, h.key, h.get, h.wf, h.dep⟩

theorem Dn.kid {w : World} {root sub a : An} {s p S' : Bs} {c : UInt8} (h : Dn w root sub s p (c :: S')) (hf : sub.kids.find c = some a) :
    a.ok w ∧ (∃ t, a.er.pre = c :: t) ∧ a.er.wf (p ++ a.er.pre) ∧ a.er.dep 1000 p.length ∧ sub.er.kids.find c = some a.er := by
  have he : sub.er.kids.find c = some a.er := by
    show sub.kids.er.find c = _
    rw [At.er_find, hf]; rfl
  obtain ⟨_, h2, _⟩ := At.focus hf
  have h3 := Ed.find_ok h.wf.2 he
  exact ⟨h2 w h.ok.2, h3.1, h3.2, Ed.dep_find h.dep he, he⟩
theorem Dn.step {w : World} {root sub a : An} {s p S' : Bs} {c : UInt8} (h : Dn w root sub s p (c :: S')) (hf : sub.kids.find c = some a) (hp : a.er.pre.isPrefixOf (c :: S') = true) :
    Dn w root a s (p ++ a.er.pre) ((c :: S').drop a.er.pre.length) := by
  obtain ⟨h1, h2, h3, h4, he⟩ := h.kid hf
  refine ⟨h1, ?_, ?_, h3, by rw [List.length_append]; exact h4.2⟩
  · obtain ⟨u, hu⟩ := pfx_iff.1 hp
    rw [h.key, hu, List.drop_left, List.append_assoc]
  · rw [h.get]
    unfold Nd.get
    rw [if_neg (by simp), Ed.get_some he, if_pos hp]
    rfl
theorem Dn.get_none {w : World} {root sub : An} {s p S' : Bs} {c : UInt8} (h : Dn w root sub s p (c :: S')) (hf : sub.kids.find c = none) : root.er.get s = none := by
  rw [h.get]
  unfold Nd.get
  rw [if_neg (by simp)]
  exact Ed.get_none (by show sub.kids.er.find c = _; rw [At.er_find, hf]; rfl)
theorem Dn.get_off {w : World} {root sub a : An} {s p S' : Bs} {c : UInt8} (h : Dn w root sub s p (c :: S')) (hf : sub.kids.find c = some a) (hp : a.er.pre.isPrefixOf (c :: S') = false) : root.er.get s = none := by
  obtain ⟨_, _, _, _, he⟩ := h.kid hf
  rw [h.get]
  unfold Nd.get
  rw [if_neg (by simp), Ed.get_some he, hp]
  rfl

theorem ba_head (s : ByteArray) (h : 0 < s.size) : ∃ S', s.data.toList = s[0] :: S' := by
  have h1 := ba_get s 0 h
  cases e : s.data.toList with
  | nil => rw [e] at h1; cases h1
  | cons a r =>
    rw [e] at h1
    have : a = s[0] := by simpa using h1
    exact ⟨r, by rw [this]⟩
theorem ba_nil (s : ByteArray) (h : s.size = 0) : s.data.toList = [] := by
  apply List.eq_nil_of_length_eq_zero; rw [ba_len]; exact h
theorem ba_drop (s : ByteArray) (k : Nat) : (s.extract k s.size).data.toList = s.data.toList.drop k := by
  rw [Lib.extract_data]; exact List.take_of_length_le (by rw [List.length_drop, ba_len]; exact Nat.le_refl _)

/-- A number or none as the tree answers it. -/
def iv : Option Int → Value
  | none => .nilIface
  | some u => boxv u

theorem lf_val (lf : Option Lv) : (lf.map lrow).map (·.2) = lf.map (·.val) := by cases lf <;> rfl

set_option maxHeartbeats 2000000 in
set_option maxRecDepth 100000 in
theorem get_any {w : World} {t : Nat} {n : An} (s : ByteArray) (h : Tr w t n) :
    Calls Try.prog 53 #[.pointer (some ⟨t, 0, none⟩), .string s] w fun e w' => e = .returned (.tuple #[iv (n.er.get s.data.toList), .bool (n.er.get s.data.toList).isSome]) ∧ Below w.heap.size w w' := by
  have ht := h.blk.lt
  have c0 : w.cell? ⟨t, 0, none⟩ = some (.pointer (some ⟨n.id, 0, none⟩)) := by rw [h.blk.cell]; rfl
  have HT := Lib.hid h
  clear h
  go_enter Try.func53, Try.ntmps53
  go_wp2_with fail
  go_loopg [6, 7] (s.size) (fun g v6 v7 wr => ∃ (sub : An) (p : Bs) (S : ByteArray), v6 = .pointer (some ⟨sub.id, 0, none⟩) ∧ v7 = .string S ∧ S.size ≤ g ∧ Below w.heap.size w wr ∧ Hid (Dn w n sub s.data.toList p S.data.toList))
  case atStart => exact ⟨n, [], s, rfl, rfl, Nat.le_refl _, Below.refl _ _, Dn.refl HT.out _⟩
  case round =>
    obtain ⟨sub, p, S, rfl, rfl, hg, hb, HD⟩ := hrel
    have hN := (HD.out.bel hb).ok.1
    have k0 : wr.cell? ⟨sub.id, 0, none⟩ = some (lptr sub.lf) := by rw [hN.blk.cell]; rfl
    by_cases h0 : S.size = 0
    · have hres : n.er.get s.data.toList = sub.lf.map (·.val) := by
        rw [HD.out.get, ba_nil S h0]
        show (if ([] : Bs) = [] then _ else _) = _
        rw [if_pos rfl]; exact lf_val sub.lf
      have hLf := hN.leaf
      have hI := isLeaf_any (lf := sub.lf) k0
      have HR := Lib.hid hres
      clear hres
      cases hlf : sub.lf with
      | none =>
        rw [hlf] at hI HR
        clear hlf hLf hN k0
        go_wp2_with fail
        refine hI.mono ?_
        rintro e w' ⟨rfl, rfl⟩
        go_wp2_with fail
        go_ret2
        exact ⟨by rw [HR.out]; rfl, hb⟩
      | some l =>
        rw [hlf] at hI hLf k0 HR
        have hL : Bk wr l.id 94 #[.string l.key, boxv l.val] := hLf
        have k1 : wr.cell? ⟨l.id, 1, none⟩ = some (.iface 3 (.int .i64 l.val)) := by rw [hL.cell]; rfl
        have k0' : wr.cell? ⟨sub.id, 0, none⟩ = some (.pointer (some ⟨l.id, 0, none⟩)) := k0
        clear hlf hLf hN k0 hL
        go_wp2_with fail
        refine hI.mono ?_
        rintro e w' ⟨rfl, rfl⟩
        go_wp2_with fail
        go_ret2
        exact ⟨by rw [HR.out]; rfl, hb⟩
    · have h0' : ((S.size : Int) == 0) = false := by rw [beq_eq_false_iff_ne]; omega
      have h0p : 0 < S.size := by omega
      obtain ⟨S', hS⟩ := ba_head S h0p
      rw [hS] at HD
      have hE := getEdge_any S[0] hN (At.asc HD.out.wf.2)
      rw [At.prs_find] at hE
      cases hf : sub.kids.find S[0] with
      | none =>
        rw [hf] at hE
        have HR := Lib.hid (HD.out.get_none hf)
        clear hf hN k0 hS
        go_wp2_with fail
        refine hE.mono ?_
        rintro e w' ⟨rfl, hb'⟩
        simp only [Option.map_none, optp]
        go_wp2_with fail
        go_ret2
        exact ⟨by rw [HR.out]; rfl, hb.trans (hb'.mono hb.size)⟩
      | some a =>
        rw [hf] at hE
        obtain ⟨ha, ⟨t0, hpre⟩, _, _, _⟩ := (HD.out.bel hb).kid hf
        have hpl : 0 < a.pre.size := by rw [← ba_len, show a.pre.data.toList = _ from hpre]; simp
        cases hp : a.pre.data.toList.isPrefixOf S.data.toList with
        | false =>
          have HR := Lib.hid (HD.out.get_off hf (by rw [← hS]; exact hp))
          clear hf hN k0 hS hpre
          go_wp2_with fail
          refine hE.mono ?_
          rintro e w' ⟨rfl, hb'⟩
          have k1 : w'.cell? ⟨a.id, 1, none⟩ = some (.string a.pre) := by rw [(An.bel ha hb').1.blk.cell]; rfl
          have hP := hasPrefix_any S a.pre w'
          rw [hp] at hP
          simp only [Option.map_some, optp]
          clear hp
          go_wp2_with fail
          refine hP.mono ?_
          rintro e w2 ⟨rfl, rfl⟩
          go_wp2_with fail
          go_ret2
          exact ⟨by rw [HR.out]; rfl, hb.trans (hb'.mono hb.size)⟩
        | true =>
          have hle : a.pre.size ≤ S.size := by
            obtain ⟨u, hu⟩ := pfx_iff.1 hp
            have := congrArg List.length hu
            rw [List.length_append, ba_len, ba_len] at this
            omega
          have HD2 := Lib.hid (HD.out.step hf (by rw [← hS]; exact hp))
          have hdr : (S[0] :: S').drop a.er.pre.length = (S.extract a.pre.size S.size).data.toList := by
            rw [ba_drop, ← hS]; show List.drop a.pre.data.toList.length _ = _; rw [ba_len]
          rw [hdr] at HD2
          clear hf hN k0 hS hpre hdr
          go_wp2_with fail
          refine hE.mono ?_
          rintro e w' ⟨rfl, hb'⟩
          have k1 : w'.cell? ⟨a.id, 1, none⟩ = some (.string a.pre) := by rw [(An.bel ha hb').1.blk.cell]; rfl
          have hP := hasPrefix_any S a.pre w'
          rw [hp] at hP
          simp only [Option.map_some, optp]
          clear hp
          go_wp2_with fail
          refine hP.mono ?_
          rintro e w2 ⟨rfl, rfl⟩
          go_wp2_with fail
          go_roundg (S.size - a.pre.size)
          case measure => omega
          case rel => exact ⟨a, _, S.extract a.pre.size S.size, rfl, rfl, by simp, hb.trans (hb'.mono hb.size), HD2⟩

end Go.Proofs.Ytaidaohkbbdimaa

namespace Go.Proofs.Ytaidaohkbbdimaa
open Go.RowKit

def ba (b : Bs) : ByteArray := ⟨b.toArray⟩
theorem ba_bs (s : ByteArray) : ba s.data.toList = s := by unfold ba; rw [Array.toArray_toList]
theorem ba_list (b : Bs) : (ba b).data.toList = b := by unfold ba; simp
/-- An entry or none as the tree answers it. -/
def rv : Option Rw → Value
  | none => .tuple #[.string ⟨#[]⟩, .nilIface, .bool false]
  | some x => .tuple #[.string (ba x.1), boxv x.2, .bool true]
theorem rv_row (l : Lv) : rv (some (lrow l)) = .tuple #[.string l.key, .iface 3 (.int .i64 l.val), .bool true] := by
  unfold rv lrow boxv
  simp only [ba_bs]

/-- What of the rows above the text was met so far, and the last of them. -/
def Met (root sub : An) (s S : Bs) (last : Option Lv) : Prop := ∃ acc, root.er.abv s = acc ++ sub.er.kids.abv S ∧ acc.getLast? = last.map lrow
def Ahead (root sub : An) (s S : Bs) (last : Option Lv) : Prop := ∃ acc, root.er.abv s = acc ++ sub.er.abv S ∧ acc.getLast? = last.map lrow

theorem Ahead.start (n : An) (s : Bs) : Ahead n n s s none := ⟨[], rfl, rfl⟩
theorem Ahead.met {root sub : An} {s S : Bs} {last : Option Lv} (h : Ahead root sub s S last) : Met root sub s S (sub.lf.or last) := by
  obtain ⟨acc, h1, h2⟩ := h
  refine ⟨acc ++ (sub.lf.map lrow).toList, by rw [h1, List.append_assoc]; rfl, ?_⟩
  cases sub.lf with
  | none => simpa using h2
  | some l => simp
theorem Met.nil {root sub : An} {s : Bs} {last : Option Lv} (h : Met root sub s [] last) : (root.er.abv s).getLast? = last.map lrow := by
  obtain ⟨acc, h1, h2⟩ := h
  rw [h1, Ed.abv_nil, List.append_nil, h2]
theorem er_find {sub : An} {c : UInt8} {o : Option An} (hf : sub.kids.find c = o) : sub.er.kids.find c = o.map An.er := by
  show sub.kids.er.find c = _
  rw [At.er_find, hf]
theorem Met.none {root sub : An} {s S' : Bs} {c : UInt8} {last : Option Lv} (h : Met root sub s (c :: S') last) (hf : sub.kids.find c = Option.none) : (root.er.abv s).getLast? = last.map lrow := by
  obtain ⟨acc, h1, h2⟩ := h
  rw [h1, Ed.abv_none (er_find hf), List.append_nil, h2]
theorem Met.off {root sub a : An} {s S' : Bs} {c : UInt8} {last : Option Lv} (h : Met root sub s (c :: S') last) (hf : sub.kids.find c = some a) (hp : a.er.pre.isPrefixOf (c :: S') = false) : (root.er.abv s).getLast? = last.map lrow := by
  obtain ⟨acc, h1, h2⟩ := h
  rw [h1, Ed.abv_some (er_find hf), hp]
  simpa using h2
theorem Met.step {root sub a : An} {s S' : Bs} {c : UInt8} {last : Option Lv} (h : Met root sub s (c :: S') last) (hf : sub.kids.find c = some a) (hp : a.er.pre.isPrefixOf (c :: S') = true) : Ahead root a s ((c :: S').drop a.er.pre.length) last := by
  obtain ⟨acc, h1, h2⟩ := h
  refine ⟨acc, ?_, h2⟩
  rw [h1, Ed.abv_some (er_find hf), if_pos hp]

set_option maxHeartbeats 4000000 in
set_option maxRecDepth 100000 in
theorem longest_any {w : World} {t : Nat} {n : An} (s : ByteArray) (h : Tr w t n) :
    Calls Try.prog 48 #[.pointer (some ⟨t, 0, none⟩), .string s] w fun e w' => e = .returned (rv (n.er.abv s.data.toList).getLast?) ∧ Below w.heap.size w w' := by
  have ht := h.blk.lt
  have c0 : w.cell? ⟨t, 0, none⟩ = some (.pointer (some ⟨n.id, 0, none⟩)) := by rw [h.blk.cell]; rfl
  have HT := Lib.hid h
  clear h
  go_enter Try.func48, Try.ntmps48
  go_wp2_with fail
  go_loopg [7, 8, 9] (s.size) (fun g v7 v8 v9 wr => ∃ (sub : An) (p : Bs) (S : ByteArray) (last : Option Lv), v7 = lptr last ∧ LfOk wr last ∧ v8 = .pointer (some ⟨sub.id, 0, none⟩) ∧ v9 = .string S ∧ S.size ≤ g ∧ Below w.heap.size w wr ∧ Hid (Dn w n sub s.data.toList p S.data.toList) ∧ Hid (Ahead n sub s.data.toList S.data.toList last))
  case atStart => exact ⟨n, [], s, none, rfl, trivial, rfl, rfl, Nat.le_refl _, Below.refl _ _, Dn.refl HT.out _, Ahead.start _ _⟩
  case round =>
    obtain ⟨sub, p, S, last, rfl, hlast, rfl, rfl, hg, hb, HD, HA⟩ := hrel
    have hN := (HD.out.bel hb).ok.1
    have k0 : wr.cell? ⟨sub.id, 0, none⟩ = some (lptr sub.lf) := by rw [hN.blk.cell]; rfl
    have hI := isLeaf_any (lf := sub.lf) k0
    have hM := HA.out.met
    have hLL : LfOk wr (sub.lf.or last) := by
      have := hN.leaf
      cases hx : sub.lf with
      | none => exact hlast
      | some l => rw [hx] at this; exact this
    have hln : sub.lf = none → sub.lf.or last = last := fun e => by rw [e]; rfl
    have hls : ∀ l, sub.lf = some l → sub.lf.or last = some l := fun l e => by rw [e]; rfl
    generalize sub.lf.or last = L at *
    have HM := Lib.hid hM
    have HNN := Lib.hid hN
    have HLn := Lib.hid hln
    have HLs := Lib.hid hls
    clear hM HA hN hln hls
    go_wp2_with fail
    refine hI.mono ?_
    rintro e w' ⟨rfl, hw⟩
    subst w'
    go_upto_if 16 with fail
    go_cut [7] (fun s7 wx => s7 = lptr L ∧ wx = wr)
    case first =>
      cases hlf : sub.lf with
      | none =>
        have HE := Lib.hid (HLn.out hlf)
        clear hlf
        go_wp2_with fail
        go_meet
        case rel => exact ⟨by rw [HE.out], rfl⟩
      | some l =>
        rw [hlf] at k0
        have k0' : wr.cell? ⟨sub.id, 0, none⟩ = some (.pointer (some ⟨l.id, 0, none⟩)) := k0
        have HE := Lib.hid (HLs.out _ hlf)
        clear hlf k0
        go_wp2_with fail
        go_meet
        case rel => exact ⟨by rw [HE.out]; rfl, rfl⟩
    case rest =>
      obtain ⟨hs7, hwc⟩ := hcut
      subst hs7
      subst wc
      clear k0 hI HLn HLs
      have finS : ∀ {w2 : World}, Below w.heap.size w w2 → (n.er.abv s.data.toList).getLast? = L.map lrow → (match L with | none => True | some l => w2.cell? ⟨l.id, 0, none⟩ = some (.string l.key) ∧ w2.cell? ⟨l.id, 1, none⟩ = some (.iface 3 (.int .i64 l.val))) → True := fun _ _ _ => trivial
      clear finS
      have hLc : ∀ l, L = some l → ∀ {w2 : World}, Below wr.heap.size wr w2 → w2.cell? ⟨l.id, 0, none⟩ = some (.string l.key) ∧ w2.cell? ⟨l.id, 1, none⟩ = some (.iface 3 (.int .i64 l.val)) := by
        intro l e w2 hb2
        subst e
        have hL : Bk wr l.id 94 #[.string l.key, boxv l.val] := hLL
        have hL2 := hL.of (hb2.block _ hL.lt)
        exact ⟨by rw [hL2.cell]; rfl, by rw [hL2.cell]; rfl⟩
      have HLC := Lib.hid hLc
      clear hLc
      by_cases h0 : S.size = 0
      · have hM := HM.out
        rw [ba_nil S h0] at hM
        have HR := Lib.hid hM.nil
        clear hM
        cases L with
        | none =>
          have k3 : lptr none = .pointer none := rfl
          go_wp2_with fail
          go_ret3
          exact ⟨by rw [HR.out]; rfl, hb.trans (Below.mono (Below.refl _ wr) hb.size)⟩
        | some l =>
          obtain ⟨k1, k2⟩ := HLC.out l rfl (Below.refl _ wr)
          have k3 : lptr (some l) = .pointer (some ⟨l.id, 0, none⟩) := rfl
          go_wp2_with fail
          go_quiet (fail)
          go_wp2_with fail
          go_ret3
          exact ⟨by rw [HR.out]; exact congrArg Ending.returned (rv_row l).symm, below_drewN (hb.trans (Below.mono (Below.refl _ wr) hb.size)) _⟩
      · have h0' : ((S.size : Int) == 0) = false := by rw [beq_eq_false_iff_ne]; omega
        have h0p : 0 < S.size := by omega
        obtain ⟨S', hS⟩ := ba_head S h0p
        rw [hS] at HD HM
        have hE := getEdge_any S[0] HNN.out (At.asc HD.out.wf.2)
        rw [At.prs_find] at hE
        cases hf : sub.kids.find S[0] with
        | none =>
          rw [hf] at hE
          have HR := Lib.hid (HM.out.none hf)
          clear hf hS
          go_wp2_with fail
          refine hE.mono ?_
          rintro e w' ⟨rfl, hb'⟩
          simp only [Option.map_none, optp]
          cases L with
          | none =>
            have k3 : lptr none = .pointer none := rfl
            go_wp2_with fail
            go_ret3
            exact ⟨by rw [HR.out]; rfl, hb.trans (Below.mono hb' hb.size)⟩
          | some l =>
            obtain ⟨k1, k2⟩ := HLC.out l rfl hb'
            have k3 : lptr (some l) = .pointer (some ⟨l.id, 0, none⟩) := rfl
            go_wp2_with fail
            go_quiet (fail)
            go_wp2_with fail
            go_ret3
            exact ⟨by rw [HR.out]; exact congrArg Ending.returned (rv_row l).symm, below_drewN (hb.trans (Below.mono hb' hb.size)) _⟩
        | some a =>
          rw [hf] at hE
          obtain ⟨ha, ⟨t0, hpre⟩, _, _, _⟩ := (HD.out.bel hb).kid hf
          have hpl : 0 < a.pre.size := by rw [← ba_len, show a.pre.data.toList = _ from hpre]; simp
          cases hp : a.pre.data.toList.isPrefixOf S.data.toList with
          | false =>
            have HR := Lib.hid (HM.out.off hf (by rw [← hS]; exact hp))
            clear hf hS hpre
            go_wp2_with fail
            refine hE.mono ?_
            rintro e w' ⟨rfl, hb'⟩
            have k1 : w'.cell? ⟨a.id, 1, none⟩ = some (.string a.pre) := by rw [(An.bel ha hb').1.blk.cell]; rfl
            have hP := hasPrefix_any S a.pre w'
            rw [hp] at hP
            simp only [Option.map_some, optp]
            clear hp
            go_wp2_with fail
            refine hP.mono ?_
            rintro e w2 ⟨rfl, hw⟩
            subst w2
            clear k1
            cases L with
            | none =>
              have k3 : lptr none = .pointer none := rfl
              go_wp2_with fail
              go_ret3
              exact ⟨by rw [HR.out]; rfl, hb.trans (Below.mono hb' hb.size)⟩
            | some l =>
              obtain ⟨k1, k2⟩ := HLC.out l rfl hb'
              have k3 : lptr (some l) = .pointer (some ⟨l.id, 0, none⟩) := rfl
              go_wp2_with fail
              go_quiet (fail)
              go_wp2_with fail
              go_ret3
              exact ⟨by rw [HR.out]; exact congrArg Ending.returned (rv_row l).symm, below_drewN (hb.trans (Below.mono hb' hb.size)) _⟩
          | true =>
            have hle : a.pre.size ≤ S.size := by
              obtain ⟨u, hu⟩ := pfx_iff.1 hp
              have := congrArg List.length hu
              rw [List.length_append, ba_len, ba_len] at this
              omega
            have HD2 := Lib.hid (HD.out.step hf (by rw [← hS]; exact hp))
            have HA2 := Lib.hid (HM.out.step hf (by rw [← hS]; exact hp))
            have hdr : (S[0] :: S').drop a.er.pre.length = (S.extract a.pre.size S.size).data.toList := by
              rw [ba_drop, ← hS]; show List.drop a.pre.data.toList.length _ = _; rw [ba_len]
            rw [hdr] at HD2 HA2
            clear hf hS hpre hdr
            go_wp2_with fail
            refine hE.mono ?_
            rintro e w' ⟨rfl, hb'⟩
            have k1 : w'.cell? ⟨a.id, 1, none⟩ = some (.string a.pre) := by rw [(An.bel ha hb').1.blk.cell]; rfl
            have hP := hasPrefix_any S a.pre w'
            rw [hp] at hP
            simp only [Option.map_some, optp]
            clear hp
            go_wp2_with fail
            refine hP.mono ?_
            rintro e w2 ⟨rfl, hw⟩
            subst w2
            go_wp2_with fail
            go_roundg (S.size - a.pre.size)
            case measure => omega
            case rel => exact ⟨a, _, S.extract a.pre.size S.size, L, rfl, LfOk.of hLL fun b hb2 => hb'.block b (LfOk.lt hLL b hb2), rfl, rfl, by simp, hb.trans (hb'.mono hb.size), HD2, HA2⟩

end Go.Proofs.Ytaidaohkbbdimaa

namespace Go.Proofs.Ytaidaohkbbdimaa
open Go.RowKit

def At.sz : At → Nat
  | .nil => 0
  | .cons _ _ _ _ _ k r => 1 + k.sz + r.sz
theorem At.first_ex : ∀ (T : At), 0 < T.prs.length → ∃ (a : An) (c : UInt8), (∃ r, T.prs = (c, a.id) :: r) ∧ (∀ w, T.ok w → a.ok w) ∧ T.er.min = a.er.min ∧ a.kids.sz < T.sz
  | .nil, h => by simp [prs] at h
  | .cons id c lf pre ev k r, _ => ⟨⟨id, lf, pre, ev, k⟩, c, ⟨_, rfl⟩, fun w h => ⟨h.1, h.2.1⟩, rfl, by simp only [sz]; omega⟩
theorem At.last_ex : ∀ (T : At), 0 < T.prs.length → ∃ (a : An) (c : UInt8), T.prs[T.prs.length - 1]? = some (c, a.id) ∧ (∀ w, T.ok w → a.ok w) ∧ T.er.max = a.er.max ∧ a.kids.sz < T.sz
  | .nil, h => by simp [prs] at h
  | .cons id c lf pre ev k .nil, _ => by
    refine ⟨⟨id, lf, pre, ev, k⟩, c, by simp [prs], fun w h => ⟨h.1, h.2.1⟩, ?_, by simp only [sz]; omega⟩
    cases k with
    | nil => simp [er, An.er, Ed.max, Nd.max, Ed.size]
    | cons => simp [er, An.er, Ed.max, Nd.max, Ed.size]
  | .cons id c lf pre ev k (.cons id2 c2 lf2 pre2 ev2 k2 r2), _ => by
    obtain ⟨a, d, h1, h2, h3, h4⟩ := At.last_ex (.cons id2 c2 lf2 pre2 ev2 k2 r2) (by simp [prs])
    refine ⟨a, d, ?_, fun w h => h2 w h.2.2, ?_, by simp only [sz] at h4 ⊢; omega⟩
    · simp only [prs, List.length_cons] at h1 ⊢
      simpa using h1
    · rw [← h3]
      simp only [er]
      rw [Ed.max]
theorem At.er_zero {T : At} (h : T.prs.length = 0) : T.er = .nil := by
  cases T with
  | nil => rfl
  | cons => simp [prs] at h

set_option maxHeartbeats 2000000 in
set_option maxRecDepth 100000 in
theorem min_any {w : World} {t : Nat} {n : An} (h : Tr w t n) :
    Calls Try.prog 54 #[.pointer (some ⟨t, 0, none⟩)] w fun e w' => e = .returned (rv n.er.min) ∧ Below w.heap.size w w' := by
  have ht := h.blk.lt
  have c0 : w.cell? ⟨t, 0, none⟩ = some (.pointer (some ⟨n.id, 0, none⟩)) := by rw [h.blk.cell]; rfl
  have HT := Lib.hid h
  clear h
  go_enter Try.func54, Try.ntmps54
  go_wp2_with fail
  go_loopg [5] (n.kids.sz) (fun g v5 wr => ∃ (sub : An) (q : Nat), v5 = .pointer (some ⟨sub.id, 0, none⟩) ∧ sub.kids.sz ≤ g ∧ wr = w.drewN q ∧ Hid (sub.ok w) ∧ Hid (n.er.min = sub.er.min))
  case atStart => exact ⟨n, 0, rfl, Nat.le_refl _, rfl, HT.out.ok, rfl⟩
  case round =>
    obtain ⟨sub, q, rfl, hg, rfl, HO, HM⟩ := hrel
    have hN := HO.out.1
    have k0 : w.cell? ⟨sub.id, 0, none⟩ = some (lptr sub.lf) := by rw [hN.blk.cell]; rfl
    have k2 : w.cell? ⟨sub.id, 2, none⟩ = some sub.ev := by rw [hN.blk.cell]; rfl
    have hI := isLeaf_any (w := w.drewN q) (lf := sub.lf) k0
    cases hlf : sub.lf with
    | some l =>
      have HR : Hid (n.er.min = some (lrow l)) := by
        rw [HM.out]; show (sub.lf.map lrow).or _ = _; rw [hlf]; rfl
      have hL : Bk w l.id 94 #[.string l.key, boxv l.val] := by have := hN.leaf; rw [hlf] at this; exact this
      have k3 : w.cell? ⟨l.id, 0, none⟩ = some (.string l.key) := by rw [hL.cell]; rfl
      have k4 : w.cell? ⟨l.id, 1, none⟩ = some (.iface 3 (.int .i64 l.val)) := by rw [hL.cell]; rfl
      rw [hlf] at hI k0
      have k0' : w.cell? ⟨sub.id, 0, none⟩ = some (.pointer (some ⟨l.id, 0, none⟩)) := k0
      clear hlf hL hN k0 k2
      go_wp2_with fail
      refine hI.mono ?_
      rintro e w' ⟨rfl, hw⟩
      subst w'
      go_wp2_with fail
      go_quiet (fail)
      go_wp2_with fail
      go_ret3
      exact ⟨by rw [HR.out]; exact congrArg Ending.returned (rv_row l).symm, below_drewN (below_drewN (Below.refl _ _) _) _⟩
    | none =>
      rw [hlf] at hI
      have hmn : sub.er.min = sub.kids.er.min := by
        show (sub.lf.map lrow).or _ = _; rw [hlf]; rfl
      by_cases h0 : sub.kids.prs.length = 0
      · have HR : Hid (n.er.min = none) := by
          rw [HM.out, hmn, At.er_zero h0]; rfl
        rcases row_cells hN.row with ⟨hev, _⟩ | ⟨g0, cap, hev, _, _, _⟩
        · rw [hev] at k2
          clear hlf hN k0 h0 hev hmn
          go_wp2_with fail
          refine hI.mono ?_
          rintro e w' ⟨rfl, hw⟩
          subst w'
          go_wp2_with fail
          go_ret3
          exact ⟨by rw [HR.out]; rfl, below_drewN (Below.refl _ _) _⟩
        · rw [hev, h0] at k2
          clear hlf hN k0 h0 hev hmn
          go_wp2_with fail
          refine hI.mono ?_
          rintro e w' ⟨rfl, hw⟩
          subst w'
          go_wp2_with fail
          go_ret3
          exact ⟨by rw [HR.out]; rfl, below_drewN (Below.refl _ _) _⟩
      · obtain ⟨a, c, ⟨r, hr⟩, ha, hm, hsz⟩ := At.first_ex sub.kids (by omega)
        have HA := Lib.hid (ha w HO.out.2)
        have HM2 : Hid (n.er.min = a.er.min) := HM.out.trans (hmn.trans hm)
        rcases row_cells hN.row with ⟨_, hev⟩ | ⟨g0, cap, hev, hcap, _, hcs⟩
        · rw [hev] at h0; exact absurd rfl h0
        · have hc1 := (hcs 0 (by omega)).2
          have hc0 := (hcs 0 (by omega)).1
          simp only [hr, List.getElem_cons_zero] at hc1 hc0
          rw [hev] at k2
          have hpos : (0 : Int) < (sub.kids.prs.length : Int) := by omega
          have hpos2 : 0 < sub.kids.prs.length := by omega
          clear hlf hN k0 h0 hev hmn hcs hr ha hm
          generalize sub.kids.prs.length = k at *
          go_wp2_with fail
          refine hI.mono ?_
          rintro e w' ⟨rfl, hw⟩
          subst w'
          go_wp2_with fail
          go_roundg (a.kids.sz)
          case measure => omega
          case rel => exact ⟨a, _, rfl, Nat.le_refl _, rfl, HA, HM2⟩

theorem Nd.max_zero {T : At} {lf : Option Lv} {pre : ByteArray} {id : Nat} {ev : Value} (h : T.prs.length = 0) : (An.er ⟨id, lf, pre, ev, T⟩).max = lf.map lrow := by
  show (Nd.mk (lf.map lrow) pre.data.toList T.er).max = _
  rw [At.er_zero h]; rfl
theorem Nd.max_pos {T : At} {lf : Option Lv} {pre : ByteArray} {id : Nat} {ev : Value} (h : ¬ T.prs.length = 0) : (An.er ⟨id, lf, pre, ev, T⟩).max = T.er.max := by
  show (if T.er.size = 0 then _ else _) = _
  rw [At.er_size, if_neg h]; rfl

set_option maxHeartbeats 2000000 in
set_option maxRecDepth 100000 in
theorem max_any {w : World} {t : Nat} {n : An} (h : Tr w t n) :
    Calls Try.prog 55 #[.pointer (some ⟨t, 0, none⟩)] w fun e w' => e = .returned (rv n.er.max) ∧ Below w.heap.size w w' := by
  have ht := h.blk.lt
  have c0 : w.cell? ⟨t, 0, none⟩ = some (.pointer (some ⟨n.id, 0, none⟩)) := by rw [h.blk.cell]; rfl
  have HT := Lib.hid h
  clear h
  go_enter Try.func55, Try.ntmps55
  go_wp2_with fail
  go_loopg [5] (n.kids.sz) (fun g v5 wr => ∃ (sub : An) (q : Nat), v5 = .pointer (some ⟨sub.id, 0, none⟩) ∧ sub.kids.sz ≤ g ∧ wr = w.drewN q ∧ Hid (sub.ok w) ∧ Hid (n.er.max = sub.er.max))
  case atStart => exact ⟨n, 0, rfl, Nat.le_refl _, rfl, HT.out.ok, rfl⟩
  case round =>
    obtain ⟨sub, q, rfl, hg, rfl, HO, HM⟩ := hrel
    have hN := HO.out.1
    have k0 : w.cell? ⟨sub.id, 0, none⟩ = some (lptr sub.lf) := by rw [hN.blk.cell]; rfl
    have k2 : w.cell? ⟨sub.id, 2, none⟩ = some sub.ev := by rw [hN.blk.cell]; rfl
    by_cases h0 : sub.kids.prs.length = 0
    · have hI := fun q => isLeaf_any (w := w.drewN q) (lf := sub.lf) k0
      have hm0 : n.er.max = sub.lf.map lrow := HM.out.trans (Nd.max_zero h0)
      obtain ⟨oa, cap, hev⟩ : ∃ oa cap, sub.ev = .slice oa 0 cap := by
        rcases row_cells hN.row with ⟨hev, _⟩ | ⟨g0, cap, hev, _, _, _⟩
        · exact ⟨_, _, hev⟩
        · exact ⟨_, _, hev.trans (by rw [h0])⟩
      rw [hev] at k2
      cases hlf : sub.lf with
      | some l =>
        have HR : Hid (n.er.max = some (lrow l)) := by rw [hm0, hlf]; rfl
        have hL : Bk w l.id 94 #[.string l.key, boxv l.val] := by have := hN.leaf; rw [hlf] at this; exact this
        have k3 : w.cell? ⟨l.id, 0, none⟩ = some (.string l.key) := by rw [hL.cell]; rfl
        have k4 : w.cell? ⟨l.id, 1, none⟩ = some (.iface 3 (.int .i64 l.val)) := by rw [hL.cell]; rfl
        rw [hlf] at hI k0
        have k0' : w.cell? ⟨sub.id, 0, none⟩ = some (.pointer (some ⟨l.id, 0, none⟩)) := k0
        clear hlf hL hN k0 hm0 h0 hev
        go_wp2_with fail
        refine (hI _).mono ?_
        rintro e w' ⟨rfl, hw⟩
        subst w'
        go_wp2_with fail
        go_quiet (fail)
        go_wp2_with fail
        go_ret3
        exact ⟨by rw [HR.out]; exact congrArg Ending.returned (rv_row l).symm, below_drewN (below_drewN (Below.refl _ _) _) _⟩
      | none =>
        have HR : Hid (n.er.max = none) := by rw [hm0, hlf]; rfl
        rw [hlf] at hI
        clear hlf hN k0 hm0 h0 hev
        go_wp2_with fail
        refine (hI _).mono ?_
        rintro e w' ⟨rfl, hw⟩
        subst w'
        go_wp2_with fail
        go_ret3
        exact ⟨by rw [HR.out]; rfl, below_drewN (Below.refl _ _) _⟩
    · obtain ⟨a, c, hr, ha, hm, hsz⟩ := At.last_ex sub.kids (by omega)
      have HA := Lib.hid (ha w HO.out.2)
      have HM2 : Hid (n.er.max = a.er.max) := HM.out.trans ((Nd.max_pos h0).trans hm)
      rcases row_cells hN.row with ⟨_, hev⟩ | ⟨g0, cap, hev, hcap, _, hcs⟩
      · rw [hev] at h0; exact absurd rfl h0
      · have hml : sub.kids.prs.length ≤ 9223372036854775807 := by
          rcases hN.row.2 with ⟨_, h⟩ | ⟨_, cap', _, _, _, _, h1, h2, _⟩
          · omega
          · unfold maxLen at h2; omega
        have hlt : sub.kids.prs.length - 1 < sub.kids.prs.length := by omega
        rw [List.getElem?_eq_getElem hlt] at hr
        have hc1 := (hcs _ hlt).2
        have hc0 := (hcs _ hlt).1
        injection hr with hr
        simp only [hr] at hc1 hc0
        rw [hev] at k2
        clear hN k0 hev hcs hr ha hm
        generalize sub.kids.prs.length = k at *
        obtain ⟨k, rfl⟩ : ∃ j, k = j + 1 := ⟨k - 1, by omega⟩
        have hpos : (0 : Int) < (k : Int) + 1 := by omega
        rw [show k + 1 - 1 = k by omega] at hc0 hc1
        go_wp2_with fail
        go_roundg (a.kids.sz)
        case measure => omega
        case rel => exact ⟨a, _, rfl, Nat.le_refl _, rfl, HA, HM2⟩

end Go.Proofs.Ytaidaohkbbdimaa
