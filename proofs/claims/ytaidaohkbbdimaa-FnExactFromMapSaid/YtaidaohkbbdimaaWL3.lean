/-
  The walks, part L3: the function that takes entries at most so many; Walk, Under, Above of the thin package.
  The walks, part L4: walker; Walk, Under, Above of the thin package.
  append onto a row of the call's own: one record, or the records of a slice.
-/
import Derived.Test.YtaidaohkbbdimaaWL
import Derived.Test.YtaidaohkbbdimaaWI
namespace Go.Proofs.Ytaidaohkbbdimaa
open Go.RowKit

/-- What append of one row leaves. -/
structure MoreR (w : World) (B : Nat) (v : Value) (acc : List Rw) (x : Rw) (g cap : Nat) (w' : World) : Prop where
  row : w'.ownsRow B 28 2 (.slice (some ⟨g, 0, none⟩) (acc.length + 1) cap) (acc.length + 1) (flat rwc (acc ++ [x]))
  turned : Mut w w' v.ownBlock.toList
  place : v.ownBlock = some g ∨ w.heap.size ≤ g

theorem step_row {ops : Array Oper} {o : Oper} {a : Act} {K : Act → World → Prop} {Q : Exit → Act → World → Prop} {E : Prop} {w : World} {B i j : Nat} {v : Value} {acc : List Rw} {key : ByteArray} {val : Int} (hgd : o.guard = none)
    (ho : o.op = .call { callee := .builtin .append, args := #[.tmp i, .tmp j], argTypes := #[24, 24] }) (hown : w.ownsRow B 28 2 v acc.length (flat rwc acc)) (hB : B ≤ w.heap.size) (hlen : acc.length < 100000)
    (hs : a.eval (.tmp i) = v) (hx : a.eval (.tmp j) = .slice (some ⟨w.heap.size, 0, none⟩) 1 1)
    (h : ∀ g cap w', MoreR w B v acc (key.data.toList, val) g cap w' → K (a.put o.dst (.slice (some ⟨g, 0, none⟩) (acc.length + 1) cap)) w') :
    if Region.wanted o (yielded ops a.tmps) = true then Oper.wp Try.prog o a (w.alloc (.cells #[.string key, .int .i64 val] 28)).drew K Q else E := by
  obtain ⟨i0, hi, hz0, hz1, hz2⟩ := info_parts info_row
  have hb2 := Bk.new w 28 #[.string key, .int .i64 val]
  refine step_append_lies _ hgd (.tmp i) (.tmp j) 24 ho B 28 i0 _ 2 24 Try.underlying24 hi hz0 hz1 hz2 rfl (by decide) v acc.length (flat rwc acc) hs (hown.alloc _) ⟨w.heap.size, 0, none⟩ 1 1 [.string key, .int .i64 val] hx rfl ?_ ?_ (by decide) (by unfold maxLen; omega) (by omega) (by simp; omega) (w.heap.size + 1) (by simp) ?_
  · intro j u hj
    match j, hj with
    | 0, hj => simp at hj; subst hj; exact hb2.cell 0
    | 1, hj => simp at hj; subst hj; exact hb2.cell 1
  · intro u hu
    simp at hu
    rcases hu with rfl | rfl <;> rfl
  · intro g cap w' hown' hgr hpl _
    refine h g cap w' ⟨?_, ?_, hpl.imp (fun h => h) (fun h => by omega)⟩
    · rw [flat_app, flat_cons, flat_nil, List.append_nil]
      show w'.ownsRow _ _ _ _ _ (flat rwc acc ++ [.string (ba key.data.toList), .int .i64 val])
      rw [ba_bs]; exact hown'
    · exact (((Mut.refl w _).alloc _).drew).grown hgr (fun b hb => Or.inl (by simp [hb]))

/-- What the taking of rows has left: the variable bo holds them. -/
def Wk (w0 : World) (bo : Nat) (w : World) (acc : List Rw) : Prop := ∃ v, Mut w0 w [bo] ∧ w.ownsRow w0.heap.size 28 2 v acc.length (flat rwc acc) ∧ Bk w bo 24 #[v]

/-- The variables that the function has captured. -/
structure Cap (w0 : World) (bo b1 b2 : Nat) (most : Int) : Prop where
  out : Bk w0 bo 24 #[.slice none 0 0]
  one : Bk w0 b1 64 #[.pointer (some ⟨bo, 0, none⟩)]
  two : Bk w0 b2 3 #[.int .i64 most]

theorem Wk.bel {w0 w w' : World} {bo : Nat} {acc : List Rw} (h : Wk w0 bo w acc) (hb : Below w.heap.size w w') : Wk w0 bo w' acc := by
  obtain ⟨v, h1, h2, h3⟩ := h
  exact ⟨v, h1.trans (Mut.of_below hb) fun b hb => Or.inl hb, own_of h2 fun b hbb => hb.block b (own_lt h2 hbb), h3.of (hb.block _ h3.lt)⟩
theorem Wk.cap1 {w0 w : World} {bo b1 b2 : Nat} {most : Int} {acc : List Rw} (h : Wk w0 bo w acc) (hc : Cap w0 bo b1 b2 most) : Bk w b1 64 #[.pointer (some ⟨bo, 0, none⟩)] := by
  obtain ⟨v, h1, _, _⟩ := h
  refine hc.one.of (h1.block _ hc.one.lt fun hi => ?_)
  exact hc.one.ne_ hc.out (by decide) (by simpa using hi)
theorem Wk.cap2 {w0 w : World} {bo b1 b2 : Nat} {most : Int} {acc : List Rw} (h : Wk w0 bo w acc) (hc : Cap w0 bo b1 b2 most) : Bk w b2 3 #[.int .i64 most] := by
  obtain ⟨v, h1, _, _⟩ := h
  refine hc.two.of (h1.block _ hc.two.lt fun hi => ?_)
  exact hc.two.ne_ hc.out (by decide) (by simpa using hi)

theorem own_len {w : World} {b : Nat} {e : TypeId} {k : Nat} {v : Value} {n : Nat} {xs : List Value} (h : w.ownsRow b e k v n xs) : ∃ A c, v = .slice A n c := by
  rcases h.2 with ⟨h, h0⟩ | ⟨g, cap, cur, h, _⟩
  · exact ⟨_, _, by rw [h, h0]⟩
  · exact ⟨_, _, h⟩
theorem MoreR.keep {w w1 : World} {B : Nat} {v : Value} {acc : List Rw} {x : Rw} {g cap bo : Nat} {ty : TypeId} {cs : Array Value} (h : MoreR w B v acc x g cap w1) (hown : w.ownsRow B 28 2 v acc.length (flat rwc acc)) (hne : 28 ≠ ty) (hk : Bk w bo ty cs) : Bk w1 bo ty cs :=
  hk.of (h.turned.block bo hk.lt (by have := own_ne_bk hown hk hne; simpa using this))
theorem Wk.more {w0 w w1 : World} {bo : Nat} {v : Value} {acc : List Rw} {x : Rw} {g cap : Nat} (h1 : Mut w0 w [bo]) (h2 : w.ownsRow w0.heap.size 28 2 v acc.length (flat rwc acc)) (h3 : Bk w bo 24 #[v]) (hL : MoreR w w0.heap.size v acc x g cap w1) :
    Wk w0 bo (w1.setCell ⟨bo, 0, none⟩ (.slice (some ⟨g, 0, none⟩) (acc.length + 1) cap)) (acc ++ [x]) := by
  have hk := hL.keep h2 (by decide) h3
  have hg : bo ≠ g := by
    have := own_ne_bk hL.row hk (by decide)
    intro e
    exact this (by simp [Value.ownBlock, e])
  refine ⟨_, ?_, ?_, hk.set_ 0 _⟩
  · refine (h1.trans (hL.turned) fun b hb => ?_).setCell (Or.inl (by simp)) _
    have hb' : v.ownBlock = some b := by simpa using hb
    exact Or.inr (h2.lt b hb').1
  · rw [List.length_append, List.length_singleton]
    refine own_of hL.row fun b hb => Below.heap_setCell _ _ _ _ ?_
    have : g = b := by simpa [Value.ownBlock] using hb
    subst this
    exact Ne.symm hg

set_option maxHeartbeats 2000000 in
set_option maxRecDepth 100000 in
theorem walker1_any {w0 w : World} {bo b1 b2 : Nat} {most : Int} {acc : List Rw} (l : Lv) (hl : acc.length < 100000) (hc : Cap w0 bo b1 b2 most) (h : Wk w0 bo w acc) :
    Calls Try.prog 60 #[.string l.key, .iface 3 (.int .i64 l.val), .pointer (some ⟨b1, 0, none⟩), .pointer (some ⟨b2, 0, none⟩)] w (Vis (Wk w0 bo) (((acc ++ [lrow l]).length : Int) == most) (acc ++ [lrow l])) := by
  have k1 : w.cell? ⟨b1, 0, none⟩ = some (.pointer (some ⟨bo, 0, none⟩)) := by rw [(h.cap1 hc).cell]; rfl
  have HC := Lib.hid hc
  have hb1 : b1 < w.heap.size := (h.cap1 hc).lt
  have HB1 := Lib.hid (h.cap1 hc)
  obtain ⟨v, h1, h2, h3⟩ := h
  obtain ⟨A, n0, c, hv⟩ := row_slice h2
  subst hv
  have k2 : w.cell? ⟨bo, 0, none⟩ = some (.slice A n0 c) := by rw [h3.cell]; rfl
  have hbo : bo < w.heap.size := h3.lt
  have HN := Lib.hid (fun W => number_any W (some l.val))
  have H1 := Lib.hid h1
  have H2 := Lib.hid h2
  have H3 := Lib.hid h3
  obtain ⟨L, hL⟩ : ∃ L, L = (acc ++ [lrow l]).length := ⟨_, rfl⟩
  rw [← hL]
  have HLL := Lib.hid hL
  clear h1 h2 h3 hc hL
  go_enter Try.func60, Try.ntmps60
  go_wp2_with fail
  go_cut [] (fun wx => Hid (Wk w0 bo wx (acc ++ [lrow l])))
  case first =>
    go_region_law (first
      | (refine step_row rfl rfl H2.out H1.out.size hl (by simp [Act.eval]) (by simp [Act.eval]) ?_
         intro g cap w1 hL
         have HL := Lib.hid hL
         have k3 := (HL.out.keep H2.out (by decide) H3.out).cell 0
         have k5 := (HL.out.keep H2.out (by decide) HB1.out).cell 0
         have f3 := (HL.out.keep H2.out (by decide) H3.out).frozen 0
         clear hL)
      | (go_simp; go_at_call 49; refine (HN.out _).mono ?_; rintro e w' ⟨rfl, hw⟩; subst hw))
    all_goals (go_wp2_with fail; go_meet; exact Lib.hid (Wk.more H1.out H2.out H3.out (by first | exact Hid.out (by assumption))))
  case rest =>
    have HW := hcut
    clear hcut k1 k2
    have k1 : wc.cell? ⟨b1, 0, none⟩ = some (.pointer (some ⟨bo, 0, none⟩)) := by rw [(HW.out.cap1 HC.out).cell]; rfl
    have k4 : wc.cell? ⟨b2, 0, none⟩ = some (.int .i64 most) := by rw [(HW.out.cap2 HC.out).cell]; rfl
    have hw := HW.out
    obtain ⟨v', _, h2', h3'⟩ := hw
    rw [← HLL.out] at h2'
    obtain ⟨A', c', hv'⟩ := own_len h2'
    subst hv'
    have k2 : wc.cell? ⟨bo, 0, none⟩ = some (.slice A' L c') := by rw [h3'.cell]; rfl
    clear h2' h3'
    go_wp2_with fail
    go_quiet (fail)
    go_wp2_with fail
    go_ret
    exact ⟨rfl, HW.out.bel (below_drewN (Below.refl _ _) _)⟩

end Go.Proofs.Ytaidaohkbbdimaa

namespace Go.Proofs.Ytaidaohkbbdimaa
open Go.RowKit

/-- A new slice is answered that reads as a list. -/
def Gives {α : Type} (f : α → List Value) (k : Nat) (w : World) (l : List α) (e : Ending) (w' : World) : Prop :=
  ∃ A c, e = .returned (.slice A l.length c) ∧ Rd w' k A l.length (flat f l) ∧ Below w.heap.size w w'

def boxed (w : World) (bo : Nat) (most : Int) : World := (w.alloc (.cells #[.pointer (some ⟨bo, 0, none⟩)] 64)).alloc (.cells #[.int .i64 most] 3)

set_option maxHeartbeats 1000000 in
theorem walker_any (w : World) (bo : Nat) (most : Int) :
    Calls Try.prog 42 #[.pointer (some ⟨bo, 0, none⟩), .int .i64 most] w fun e w' => e = .returned (.func (.func 60) #[] #[.pointer (some ⟨w.heap.size, 0, none⟩), .pointer (some ⟨w.heap.size + 1, 0, none⟩)]) ∧ w' = boxed w bo most := by
  go_enter Try.func42, Try.ntmps42
  go_wp2_with fail
  go_ret
  exact ⟨rfl, rfl⟩

theorem boxed_below (w : World) (bo : Nat) (most : Int) : Below w.heap.size w (boxed w bo most) := ((Below.refl _ w).alloc (Nat.le_refl _) _).alloc (by simp) _
theorem boxed_cap {w : World} {bo : Nat} (most : Int) (h : Bk w bo 24 #[.slice none 0 0]) : Cap (boxed w bo most) bo w.heap.size (w.heap.size + 1) most := by
  refine ⟨(h.alloc _).alloc _, (Bk.new w _ _).alloc _, ?_⟩
  have := Bk.new (w.alloc (.cells #[.pointer (some ⟨bo, 0, none⟩)] 64)) 3 #[.int .i64 most]
  rw [World.size_alloc] at this; exact this

theorem walk_visitor {w0 : World} {bo b1 b2 : Nat} {most : Int} (hc : Cap w0 bo b1 b2 most) :
    Visitor 100000 60 #[.pointer (some ⟨b1, 0, none⟩), .pointer (some ⟨b2, 0, none⟩)] (fun a => (a.length : Int) == most) (Wk w0 bo) :=
  ⟨enters Try.func60 (by kernel_rfl) rfl, fun _ _ _ h hb => h.bel hb, fun _ _ l hl h => walker1_any l hl hc h⟩

theorem Wk.start {w0 : World} {bo b1 b2 : Nat} {most : Int} (hc : Cap w0 bo b1 b2 most) : Wk w0 bo w0 [] := ⟨_, Mut.refl _ _, ⟨rfl, Or.inl ⟨rfl, rfl⟩⟩, hc.out⟩
theorem Wk.tree {w0 w w1 : World} {bo t : Nat} {acc : List Rw} {ops : List Opr} {n : An} (h : Wk w0 bo w acc) (hM : Mk w1 ops w0 t n) (hb : bo < w1.heap.size) : Tr w t n := by
  obtain ⟨v, h1, _, _⟩ := h
  refine hM.tr.keep h1 (fun hi => ?_) fun b hbb hi => ?_
  · have e : t = bo := by simpa using hi
    have := hM.tnew; omega
  · have e : b = bo := by simpa using hi
    have := hM.new b hbb; omega
theorem Wk.ends {w w0 w4 : World} {bo : Nat} {acc : List Rw} (h : Wk w0 bo w4 acc) (hb : Below w.heap.size w w0) (hbo : w.heap.size ≤ bo) :
    ∃ A c, w4.cell? ⟨bo, 0, none⟩ = some (.slice A acc.length c) ∧ Gives rwc 2 w acc (.returned (.slice A acc.length c)) w4 := by
  obtain ⟨v, h1, h2, h3⟩ := h
  obtain ⟨A, c, hv⟩ := own_len h2
  subst hv
  refine ⟨A, c, by rw [h3.cell]; rfl, A, c, rfl, Rd.own h2, ?_⟩
  exact hb.trans (h1.below (by simpa using hbo) hb.size)

set_option maxHeartbeats 1000000 in
set_option maxRecDepth 100000 in
theorem iWalk_any {w : World} {A : Option Addr} {c : Nat} {ops : List Opr} (most : Int) (h : Rd w 3 A ops.length (flat opc ops)) (hO : Oks ops) :
    Calls Try.prog 27 #[.slice A ops.length c, .int .i64 most] w (Gives rwc 2 w (first (rows ops) most)) := by
  have hb1 : Below w.heap.size w (w.alloc (.cells #[.slice none 0 0] 24)) := (Below.refl _ w).alloc (Nat.le_refl _) _
  have hp := put_any (c := c) (h.bel hb1) hO
  have HB1 := Lib.hid hb1
  have HK := Lib.hid (Bk.new w 24 #[.slice none 0 0])
  have HS : Hid ((w.alloc (.cells #[.slice none 0 0] 24)).heap.size = w.heap.size + 1) := Lib.hid (by simp)
  have hlen := hO.len
  have HLE := Lib.hid hlen
  clear h hO hb1 hlen
  go_enter Try.func27, Try.ntmps27
  go_wp2_with fail
  refine hp.mono ?_
  clear hp
  rintro e w2 ⟨t, n, rfl, hM⟩
  have HM := Lib.hid hM
  have HK2 := Lib.hid (HK.out.of (hM.bel.block _ HK.out.lt))
  clear hM
  go_wp2_with fail
  refine (walker_any w2 w.heap.size most).mono ?_
  rintro e w3 ⟨rfl, hw⟩
  have HC := Lib.hid (boxed_cap most HK2.out)
  have hMb := HM.out.below (boxed_below w2 w.heap.size most)
  rw [← hw] at HC hMb
  have HMB := Lib.hid hMb
  have hW := walk_any (walk_visitor HC.out) (Wk.start HC.out) (fun w acc h => h.tree HMB.out (by rw [HS.out]; omega)) (by have := HMB.out.len; have := HLE.out; simp; omega)
  rw [vis_first, HMB.out.ents] at hW
  have HW := Lib.hid hW
  clear hw hMb hW
  go_wp2_with fail
  refine HW.out.mono ?_
  rintro e w4 ⟨rfl, hk⟩
  obtain ⟨A', c', k1, hg⟩ := hk.ends (HB1.out.trans (HMB.out.bel.mono HB1.out.size)) (Nat.le_refl _)
  have HG := Lib.hid hg
  clear hk hg
  go_wp2_with fail
  go_ret
  exact HG.out

set_option maxHeartbeats 1000000 in
set_option maxRecDepth 100000 in
theorem iUnder_any {w : World} {A : Option Addr} {c : Nat} {ops : List Opr} (s : Bs) (most : Int) (h : Rd w 3 A ops.length (flat opc ops)) (hO : Oks ops) :
    Calls Try.prog 24 #[.slice A ops.length c, .string (ba s), .int .i64 most] w (Gives rwc 2 w (first (und (rows ops) s) most)) := by
  have hb1 : Below w.heap.size w (w.alloc (.cells #[.slice none 0 0] 24)) := (Below.refl _ w).alloc (Nat.le_refl _) _
  have hp := put_any (c := c) (h.bel hb1) hO
  have HB1 := Lib.hid hb1
  have HK := Lib.hid (Bk.new w 24 #[.slice none 0 0])
  have HS : Hid ((w.alloc (.cells #[.slice none 0 0] 24)).heap.size = w.heap.size + 1) := Lib.hid (by simp)
  have hlen := hO.len
  have HLE := Lib.hid hlen
  clear h hO hb1 hlen
  go_enter Try.func24, Try.ntmps24
  go_wp2_with fail
  refine hp.mono ?_
  clear hp
  rintro e w2 ⟨t, n, rfl, hM⟩
  have HM := Lib.hid hM
  have HK2 := Lib.hid (HK.out.of (hM.bel.block _ HK.out.lt))
  clear hM
  go_wp2_with fail
  refine (walker_any w2 w.heap.size most).mono ?_
  rintro e w3 ⟨rfl, hw⟩
  have HC := Lib.hid (boxed_cap most HK2.out)
  have hMb := HM.out.below (boxed_below w2 w.heap.size most)
  rw [← hw] at HC hMb
  have HMB := Lib.hid hMb
  have hW := walkPrefix_any (ba s) (walk_visitor HC.out) (Wk.start HC.out) (fun w acc h => h.tree HMB.out (by rw [HS.out]; omega)) (by have := HMB.out.len; have := HLE.out; simp; omega)
  rw [vis_first, ba_list, Nd.und_ok HMB.out.tr.wf, HMB.out.ents] at hW
  have HW := Lib.hid hW
  clear hw hMb hW
  go_wp2_with fail
  refine HW.out.mono ?_
  rintro e w4 ⟨rfl, hk⟩
  obtain ⟨A', c', k1, hg⟩ := hk.ends (HB1.out.trans (HMB.out.bel.mono HB1.out.size)) (Nat.le_refl _)
  have HG := Lib.hid hg
  clear hk hg
  go_wp2_with fail
  go_ret
  exact HG.out

set_option maxHeartbeats 1000000 in
set_option maxRecDepth 100000 in
theorem iAbove_any {w : World} {A : Option Addr} {c : Nat} {ops : List Opr} (s : Bs) (most : Int) (h : Rd w 3 A ops.length (flat opc ops)) (hO : Oks ops) :
    Calls Try.prog 36 #[.slice A ops.length c, .string (ba s), .int .i64 most] w (Gives rwc 2 w (first (abv (rows ops) s) most)) := by
  have hb1 : Below w.heap.size w (w.alloc (.cells #[.slice none 0 0] 24)) := (Below.refl _ w).alloc (Nat.le_refl _) _
  have hp := put_any (c := c) (h.bel hb1) hO
  have HB1 := Lib.hid hb1
  have HK := Lib.hid (Bk.new w 24 #[.slice none 0 0])
  have HS : Hid ((w.alloc (.cells #[.slice none 0 0] 24)).heap.size = w.heap.size + 1) := Lib.hid (by simp)
  have hlen := hO.len
  have HLE := Lib.hid hlen
  clear h hO hb1 hlen
  go_enter Try.func36, Try.ntmps36
  go_wp2_with fail
  refine hp.mono ?_
  clear hp
  rintro e w2 ⟨t, n, rfl, hM⟩
  have HM := Lib.hid hM
  have HK2 := Lib.hid (HK.out.of (hM.bel.block _ HK.out.lt))
  clear hM
  go_wp2_with fail
  refine (walker_any w2 w.heap.size most).mono ?_
  rintro e w3 ⟨rfl, hw⟩
  have HC := Lib.hid (boxed_cap most HK2.out)
  have hMb := HM.out.below (boxed_below w2 w.heap.size most)
  rw [← hw] at HC hMb
  have HMB := Lib.hid hMb
  have hW := walkPath_any (ba s) (walk_visitor HC.out) (Wk.start HC.out) (fun w acc h => h.tree HMB.out (by rw [HS.out]; omega)) (by have := HMB.out.len; have := HLE.out; simp; omega)
  rw [vis_first, ba_list, abv_rows HMB.out] at hW
  have HW := Lib.hid hW
  clear hw hMb hW
  go_wp2_with fail
  refine HW.out.mono ?_
  rintro e w4 ⟨rfl, hk⟩
  obtain ⟨A', c', k1, hg⟩ := hk.ends (HB1.out.trans (HMB.out.bel.mono HB1.out.size)) (Nat.le_refl _)
  have HG := Lib.hid hg
  clear hk hg
  go_wp2_with fail
  go_ret
  exact HG.out

end Go.Proofs.Ytaidaohkbbdimaa

namespace Go.Proofs.Ytaidaohkbbdimaa
open Go.RowKit

/-- What is known of a type of records and of the slices of them. -/
structure Rec {α : Type} (ty tys : TypeId) (f : α → List Value) (k bytes : Nat) : Prop where
  und : Try.prog.underlying tys = some (.slice ty)
  info : ∃ i z, Try.prog.info? ty = some i ∧ i.zero = some z ∧ i.size = k ∧ i.bytes = bytes ∧ z.cells.size = k
  pos : 0 < k
  len : ∀ x, (f x).length = k
  one : ∀ x, ∀ v ∈ f x, v.oneCell' = true

theorem rec_row : Rec 28 24 rwc 2 24 := by
  obtain ⟨i, h1, h2, h3, h4⟩ := info_parts info_row
  exact ⟨Try.underlying24, ⟨i, _, h1, h2, h3, h4, rfl⟩, by omega, rwc_len, rwc_one⟩
theorem rec_op : Rec 37 31 opc 3 32 := by
  obtain ⟨i, h1, h2, h3, h4⟩ := info_parts info_op
  exact ⟨Try.underlying31, ⟨i, _, h1, h2, h3, h4, rfl⟩, by omega, opc_len, opc_one⟩
/-- A row of the call's own, of new blocks, that holds a list. -/
structure Acc {α : Type} (ty : TypeId) (f : α → List Value) (k : Nat) (w0 w : World) (v : Value) (l : List α) : Prop where
  row : w.ownsRow w0.heap.size ty k v l.length (flat f l)
  bel : Below w0.heap.size w0 w

/-- What an append leaves. -/
structure App1 {α : Type} (ty : TypeId) (f : α → List Value) (k : Nat) (B : Nat) (w : World) (v : Value) (l : List α) (v' : Value) (w' : World) : Prop where
  row : w'.ownsRow B ty k v' l.length (flat f l)
  turned : Mut w w' v.ownBlock.toList
  place : v'.ownBlock = v.ownBlock ∨ v'.ownBlock = some w.heap.size

section
variable {α : Type} {ty tys : TypeId} {f : α → List Value} {k bytes : Nat} {w0 w w' : World} {v v' : Value} {l l' : List α}
theorem Acc.start (hb : Below w0.heap.size w0 w) : Acc ty f k w0 w (.slice none 0 0) ([] : List α) := ⟨⟨by simp [flat], Or.inl ⟨rfl, rfl⟩⟩, hb⟩
theorem Acc.below (h : Acc ty f k w0 w v l) (hb : Below w.heap.size w w') : Acc ty f k w0 w' v l :=
  ⟨own_of h.row fun b hbb => hb.block b (own_lt h.row hbb), h.bel.trans (hb.mono h.bel.size)⟩
theorem Acc.app (h : Acc ty f k w0 w v l) (ha : App1 ty f k w0.heap.size w v l' v' w') : Acc ty f k w0 w' v' l' :=
  ⟨ha.row, h.bel.trans (ha.turned.below (fun b hb => (h.row.lt b (by simpa using hb)).1) h.bel.size)⟩
theorem Acc.gives (h : Acc ty f k w0 w v l) : Gives f k w0 l (.returned v) w := by
  obtain ⟨A, c, hv⟩ := own_len h.row
  have hr := h.row
  subst hv
  exact ⟨A, c, rfl, Rd.own hr, h.bel⟩

theorem wp_many {B n : Nat} {xs : List α} {A : Option Addr} {c : Nat} {o : Oper} {a : Act} {K : Act → World → Prop} {Q : Exit → Act → World → Prop} {s x : Operand} (H : Rec ty tys f k bytes)
    (ho : o.op = .call { callee := .builtin .append, args := #[s, x], argTypes := #[tys, tys] }) (hown : w.ownsRow B ty k v l.length (flat f l)) (hB : B ≤ w.heap.size)
    (hlen : l.length + n ≤ 100000) (hby : bytes ≤ 1000) (hs : a.eval s = v) (hx : a.eval x = .slice A n c) (hn : n = xs.length) (hr : Rd w k A n (flat f xs))
    (h : ∀ v' w', App1 ty f k B w v (l ++ xs) v' w' → K (a.put o.dst v') w') : o.wp Try.prog a w K Q := by
  subst hn
  obtain ⟨i, z, hi, hz, h1, h2, h3⟩ := H.info
  have hbytes : (l.length + xs.length) * bytes ≤ 140737488355328 := Nat.le_trans (Nat.mul_le_mul hlen hby) (by omega)
  have run : ∃ v' w', (Builtin.append_ #[tys, tys] o.type #[v, .slice A xs.length c]).run Try.prog w = .ok v' w' ∧ w'.ownsRow B ty k v' (l.length + xs.length) (flat f l ++ flat f xs) ∧ w.grownBy w' v.ownBlock ∧ (v'.ownBlock = v.ownBlock ∨ v'.ownBlock = some w.heap.size) := by
    cases A with
    | none =>
      have hx0 : xs = [] := by
        cases xs with
        | nil => rfl
        | cons y ys => obtain ⟨ad, h, _⟩ := hr.2 (by simp); cases h
      subst hx0
      refine ⟨v, w, ?_, by simpa [flat] using hown, World.grownBy.refl w _, Or.inl rfl⟩
      rcases hown.2 with ⟨rfl, hl⟩ | ⟨g, cap, cur, rfl, _, _, hnc, _⟩
      · simp [Builtin.append_, run_underlying H.und, sizeOf, typeInfo, hi, Builtin.lenOf, Builtin.firstCells]
      · simp [Builtin.append_, run_underlying H.und, sizeOf, typeInfo, hi, Builtin.lenOf, Builtin.firstCells, hnc, storeCells]
    | some ad =>
      have hc : ∀ j u, (flat f xs)[j]? = some u → w.cell? (ad.add j) = some u := by
        cases xs with
        | nil => intro j u hu; simp [flat] at hu
        | cons y ys =>
          obtain ⟨ad', h, _, hc⟩ := hr.2 (by simp)
          injection h with h
          subst h
          exact hc
      obtain ⟨v', w', g1, g2, g3, _, g5⟩ := run_append_own_at (P := Try.prog) w B tys o.type ty i z k bytes H.und hi hz h1 h2 h3 H.pos v l.length (flat f l) hown ad xs.length c (flat f xs) (flat_len H.len _) hc (flat_one H.one _) (by unfold maxLen; omega) hbytes hB
      exact ⟨v', w', g1, g2, g3, g5⟩
  obtain ⟨v', w', g1, g2, g3, g4⟩ := run
  unfold Oper.wp execOp
  simp only [ho, resolve, invoke, builtin, Sem.run_bind, Sem.run_pure, Result.andThen_ok, List.map_toArray, List.map_cons, List.map_nil, hs, hx, g1]
  refine h v' w' ⟨?_, (Mut.refl w _).grown g3 (fun b hb => Or.inl (by simp [hb])), g4⟩
  rw [List.length_append, flat_app]; exact g2

theorem wpList_many {B n : Nat} {xs : List α} {A : Option Addr} {c : Nat} {ops : Array Oper} {rest : List Oper} {o : Oper} {a : Act} {Q : Exit → Act → World → Prop} {s x : Operand} (H : Rec ty tys f k bytes) (hgd : o.guard = none)
    (ho : o.op = .call { callee := .builtin .append, args := #[s, x], argTypes := #[tys, tys] }) (hown : w.ownsRow B ty k v l.length (flat f l)) (hB : B ≤ w.heap.size)
    (hlen : l.length + n ≤ 100000) (hby : bytes ≤ 1000) (hs : a.eval s = v) (hx : a.eval x = .slice A n c) (hn : n = xs.length) (hr : Rd w k A n (flat f xs))
    (h : ∀ v' w', App1 ty f k B w v (l ++ xs) v' w' → wpList Try.prog ops Q rest (a.put o.dst v') w') : wpList Try.prog ops Q (o :: rest) a w :=
  wpList_plain hgd fun _ hK => wp_many H ho hown hB hlen hby hs hx hn hr fun v' w' h2 => hK _ _ (h v' w' h2)

/-- One record in a block of its own. -/
theorem rd_one {w : World} {g : Nat} {cs : Array Value} {y : α} (hk : (f y).length = k) (h : Bk w g ty cs) (hc : cs.toList = f y) : Rd w k (some ⟨g, 0, none⟩) 1 (flat f [y]) := by
  have e : flat f [y] = f y := by simp [flat]
  rw [e]
  refine ⟨by rw [hk, Nat.one_mul], fun _ => ⟨_, rfl, h.lt, fun j u hu => ?_⟩⟩
  rw [← hc] at hu
  have h2 := h.cell j
  have : (⟨g, 0, none⟩ : Addr).add j = ⟨g, j, none⟩ := by
    unfold Addr.add
    split
    · rename_i hj; subst hj; rfl
    · simp
  rw [this, h2]
  simpa using hu
end

end Go.Proofs.Ytaidaohkbbdimaa
