/-
  The walks, part C: the methods of a node: addEdge, updateEdge, delEdge, mergeChild.
  The walks, part C2: the methods of a node: updateEdge, delEdge.
  The walks, part C3: the methods of a node: delEdge.
  The walks, part C4: the methods of a node: mergeChild.
-/
import Derived.Test.YtaidaohkbbdimaaWB7
import Derived.Deep.RegionLaw
import Derived.Deep.AppendLies
import Derived.Laws.CopyOwn
namespace Go.Proofs.Ytaidaohkbbdimaa
open Go.RowKit

theorem info_edge : (Try.prog.info? 99).map (fun i => (i.zero, i.size, i.bytes)) = some (some (.agg #[.int .u8 0, .pointer none]), 2, 16) := by kernel_rfl

set_option maxHeartbeats 1000000 in
theorem esort_any {g cap : Nat} {sp : List Value} {w : World} {d : Array Pr} (hg : g < w.heap.size) (hn : d.size ≤ 256) (hs : Dst d) (hS : SS g sp w d w) :
    Calls Try.prog 78 #[.slice (some ⟨g, 0, none⟩) d.size cap] w (Sorted g sp w d) := by
  go_enter Try.func78, Try.ntmps78
  go_wp2_with fail
  refine (sort_any hg hn hs hS).mono ?_
  rintro e w' ⟨rfl, hq⟩
  have HQ := Lib.hid hq
  clear hq
  go_wp2_with fail
  go_end0
  exact ⟨rfl, HQ.out⟩

/-- What addEdge leaves. -/
def Added (w : World) (id : Nat) (lf : Option Lv) (pre : ByteArray) (ev : Value) (ps : List Pr) (e : Ending) (w' : World) : Prop :=
  e = .returned (.tuple #[]) ∧ ∃ ev', NdOk w' id lf pre ev' ps ∧ Mut w w' (id :: ev.ownBlock.toList) ∧ (∀ b, ev'.ownBlock = some b → ev.ownBlock = some b ∨ w.heap.size ≤ b)

/-- What append of one edge leaves, before the field is written. -/
structure Longer (w : World) (id : Nat) (ev : Value) (ps : List Pr) (x : Pr) (g cap : Nat) (w' : World) : Prop where
  row : w'.ownsRow 0 99 2 (.slice (some ⟨g, 0, none⟩) (ps.length + 1) cap) (ps.length + 1) (prCells (ps ++ [x]))
  turned : Mut w w' ev.ownBlock.toList
  place : ev.ownBlock = some g ∨ w.heap.size ≤ g
  cell : w'.cell? ⟨id, 2, none⟩ = some ev
  free : w'.frozen? ⟨id, 2, none⟩ = false

theorem step_add {ops : Array Oper} {o : Oper} {a : Act} {K : Act → World → Prop} {Q : Exit → Act → World → Prop} {E : Prop} {w : World} {id cid : Nat} {c : UInt8} {lf : Option Lv} {pre : ByteArray} {ev : Value} {ps : List Pr} (hgd : o.guard = none)
    (ho : o.op = .call { callee := .builtin .append, args := #[.tmp 8, .tmp 10], argTypes := #[83, 83] }) (hN : NdOk w id lf pre ev ps) (hlen : ps.length ≤ 256)
    (hs : a.eval (.tmp 8) = ev) (hx : a.eval (.tmp 10) = .slice (some ⟨w.heap.size + 1, 0, none⟩) 1 1)
    (h : ∀ g cap w', Longer w id ev ps (c, cid) g cap w' → K (a.put o.dst (.slice (some ⟨g, 0, none⟩) (ps.length + 1) cap)) w') :
    if Region.wanted o (yielded ops a.tmps) = true then Oper.wp Try.prog o a ((w.alloc (.cells #[.int .u8 c.toNat, .pointer (some ⟨cid, 0, none⟩)] 99)).alloc (.cells #[.int .u8 c.toNat, .pointer (some ⟨cid, 0, none⟩)] 99)).drew K Q else E := by
  obtain ⟨i0, hi, hz0, hz1, hz2⟩ := info_parts info_edge
  have hid := hN.blk.lt
  have hne := own_ne_bk hN.row hN.blk (by decide)
  have hb2 : Bk ((w.alloc (.cells #[.int .u8 c.toNat, .pointer (some ⟨cid, 0, none⟩)] 99)).alloc (.cells #[.int .u8 c.toNat, .pointer (some ⟨cid, 0, none⟩)] 99)) (w.heap.size + 1) 99 #[.int .u8 c.toNat, .pointer (some ⟨cid, 0, none⟩)] := by
    have := Bk.new (w.alloc (.cells #[.int .u8 c.toNat, .pointer (some ⟨cid, 0, none⟩)] 99)) 99 #[.int .u8 c.toNat, .pointer (some ⟨cid, 0, none⟩)]
    rwa [World.size_alloc] at this
  refine step_append_lies _ hgd (.tmp 8) (.tmp 10) 83 ho 0 99 i0 _ 2 16 Try.underlying83 hi hz0 hz1 hz2 rfl (by decide) ev ps.length (prCells ps) hs ((hN.row.alloc _).alloc _) ⟨w.heap.size + 1, 0, none⟩ 1 1 [.int .u8 c.toNat, .pointer (some ⟨cid, 0, none⟩)] hx rfl ?_ ?_ (by decide) (by unfold maxLen; omega) (by omega) (Nat.zero_le _) (w.heap.size + 2) (by simp) ?_
  · intro j u hj
    match j, hj with
    | 0, hj => simp at hj; subst hj; exact hb2.cell 0
    | 1, hj => simp at hj; subst hj; exact hb2.cell 1
  · intro u hu
    simp at hu
    rcases hu with rfl | rfl <;> rfl
  · intro g cap w' hown hgr hpl _
    refine h g cap w' ⟨by rw [prCells_app]; exact hown, ?_, hpl.imp (fun h => h) (fun h => by omega), ?_, ?_⟩
    · exact (((Mut.refl w _).alloc _).alloc _).drew.grown hgr (fun b hb => Or.inl (by simp [hb]))
    · have e : w'.heap[id]? = w.heap[id]? := ((((Mut.refl w ev.ownBlock.toList).alloc _).alloc _).drew.grown hgr (fun b hb => Or.inl (by simp [hb]))).block id hid (by simpa using hne)
      have hk : Bk w' id 85 #[lptr lf, .string pre, ev] := hN.blk.of e
      rw [hk.cell]; rfl
    · have e : w'.heap[id]? = w.heap[id]? := ((((Mut.refl w ev.ownBlock.toList).alloc _).alloc _).drew.grown hgr (fun b hb => Or.inl (by simp [hb]))).block id hid (by simpa using hne)
      have hk : Bk w' id 85 #[lptr lf, .string pre, ev] := hN.blk.of e
      exact hk.frozen 2

/-- .. and behind the field. -/
structure Longer2 (w : World) (id : Nat) (lf : Option Lv) (pre : ByteArray) (ev : Value) (ps : List Pr) (x : Pr) (g cap : Nat) (sp : List Value) (w' : World) : Prop where
  node : Bk w' id 85 #[lptr lf, .string pre, .slice (some ⟨g, 0, none⟩) (ps.length + 1) cap]
  leaf : LfOk w' lf
  row : SS g sp w' (ps ++ [x]).toArray w'
  room : ps.length + 1 ≤ cap
  fits : cap ≤ maxLen
  full : (prCells (ps ++ [x]) ++ sp).length = cap * 2
  turned : Mut w w' (id :: ev.ownBlock.toList)
  place : ev.ownBlock = some g ∨ w.heap.size ≤ g
  ne : g ≠ id
theorem Longer.store {w w1 : World} {id g cap : Nat} {lf : Option Lv} {pre : ByteArray} {ev : Value} {ps : List Pr} {x : Pr} (hN : NdOk w id lf pre ev ps) (h : Longer w id ev ps x g cap w1) :
    ∃ sp, Longer2 w id lf pre ev ps x g cap sp (w1.setCell ⟨id, 2, none⟩ (.slice (some ⟨g, 0, none⟩) (ps.length + 1) cap)) := by
  have hne := own_ne_bk hN.row hN.blk (by decide)
  have hk : Bk w1 id 85 #[lptr lf, .string pre, ev] := hN.blk.of (h.turned.block id hN.blk.lt (by simpa using hne))
  have hlf : ∀ b ∈ lfoot lf, b ≠ id ∧ b ∉ ev.ownBlock.toList := by
    intro b hb
    cases lf with
    | none => simp [lfoot] at hb
    | some l =>
      simp [lfoot] at hb
      subst hb
      have hl : Bk w l.id 94 #[.string l.key, boxv l.val] := hN.leaf
      exact ⟨hl.ne_ hN.blk (by decide), by have := own_ne_bk hN.row hl (by decide); simpa using this⟩
  obtain ⟨hxl, hrow⟩ := h.row
  rcases hrow with ⟨h1, _⟩ | ⟨g', cap', cur, h1, _, hg, hnc, hcm, hcs, htake⟩
  · cases h1
  · simp only [Value.slice.injEq, Option.some.injEq, Addr.mk.injEq, and_true, true_and] at h1
    obtain ⟨rfl, rfl⟩ := h1
    have hgid : g ≠ id := fun e => by
      have : Bk w1 g 99 cur := hg
      exact (this.ne_ hk (by decide)) e
    have hcur : cur = (prCells (ps ++ [x]) ++ cur.toList.drop ((ps.length + 1) * 2)).toArray := by
      rw [← htake, List.take_append_drop]
    refine ⟨cur.toList.drop ((ps.length + 1) * 2), ⟨hk.set_ 2 _, ?_, ⟨?_, Mut.refl _ _⟩, hnc, hcm, ?_, ?_, h.place, hgid⟩⟩
    · refine hN.leaf.of fun b hb => ?_
      rw [Below.heap_setCell _ _ _ _ (show b ≠ id from (hlf b hb).1)]
      exact h.turned.block b (hN.leaf.lt b hb) (hlf b hb).2
    · have : Bk w1 g 99 (prCells (ps ++ [x]) ++ cur.toList.drop ((ps.length + 1) * 2)).toArray := by rw [← hcur]; exact hg
      exact this.far (p := ⟨id, 2, none⟩) hgid _
    · have := congrArg Array.size hcur
      simp only [List.size_toArray] at this
      rw [← this, hcs]
    · exact (h.turned.mono (fun b hb => by simp [hb])).setCell (Or.inl (by simp)) _

set_option maxHeartbeats 2000000 in
set_option maxRecDepth 100000 in
theorem addEdge_any {w : World} {id cid : Nat} {c : UInt8} {lf : Option Lv} {pre : ByteArray} {ev : Value} {ps : List Pr} (hN : NdOk w id lf pre ev ps) (ha : Asc ps) (hf : prFind ps c = none) :
    Calls Try.prog 68 #[.pointer (some ⟨id, 0, none⟩), .agg #[.int .u8 c.toNat, .pointer (some ⟨cid, 0, none⟩)]] w (Added w id lf pre ev (prAdd ps (c, cid))) := by
  have hasc := prAdd_asc (x := (c, cid)) ha hf
  have hl2 : ps.length + 1 ≤ 256 := by
    have := asc_len hasc
    rw [(prAdd_perm ps (c, cid)).length_eq] at this
    simpa using this
  have HA := Lib.hid hasc
  have hl := asc_len ha
  have hid := hN.blk.lt
  have hc2 : w.cell? ⟨id, 2, none⟩ = some ev := by rw [hN.blk.cell]; rfl
  clear hasc
  go_enter Try.func68, Try.ntmps68
  go_wp2_with fail
  go_cut [11] (fun _ wx => ∃ (g cap : Nat) (sp : List Value), Longer2 w id lf pre ev ps (c, cid) g cap sp wx)
  case first =>
    go_region_law (refine step_add (c := c) (cid := cid) rfl rfl hN hl (by simp [Act.eval]) (by simp [Act.eval]) ?_; intro g cap w1 hL; have k2 := hL.cell; have f2 := hL.free)
    all_goals (go_wp2_with fail; go_meet; exact ⟨_, _, Longer.store hN (by assumption)⟩)
  case rest =>
    obtain ⟨g, cap, sp, hL⟩ := hcut
    have k2 : wc.cell? ⟨id, 2, none⟩ = some (.slice (some ⟨g, 0, none⟩) (ps.length + 1) cap) := by rw [hL.node.cell]; rfl
    have hds : Dst (ps ++ [(c, cid)]).toArray := by
      have h1 : ((prAdd ps (c, cid)).map (·.1)).Nodup := by
        have := HA.out
        unfold Asc at this
        rw [List.Nodup, List.pairwise_map]
        exact this.imp fun h => ne_of_ltu h
      exact (List.Perm.nodup_iff (List.Perm.map (fun x : Pr => x.1) (prAdd_perm ps (c, cid)))).1 h1
    have hsort := esort_any (cap := cap) (d := (ps ++ [(c, cid)]).toArray) hL.row.row.lt (by simpa using hl2) hds hL.row
    rw [show (ps ++ [(c, cid)]).toArray.size = ps.length + 1 by simp] at hsort
    clear hc2
    go_wp2_with fail
    refine hsort.mono ?_
    clear hsort
    rintro e w2 ⟨rfl, d', hS2, hp, has2⟩
    have hd' : d'.toList = prAdd ps (c, cid) := asc_perm has2 HA.out (hp.trans (prAdd_perm ps (c, cid)).symm)
    have hlen : (prAdd ps (c, cid)).length = ps.length + 1 := by rw [(prAdd_perm ps (c, cid)).length_eq]; simp
    have hfin : NdOk w2 id lf pre (.slice (some ⟨g, 0, none⟩) (ps.length + 1) cap) (prAdd ps (c, cid)) := by
      have hne : id ≠ g := fun e => hL.ne e.symm
      refine ⟨hS2.keep hL.node hne, hL.leaf.of fun b hb => hS2.rest.block b (hL.leaf.lt b hb) ?_, ?_, .inr ⟨g, cap, _, by rw [hlen], Nat.zero_le _, hS2.row, ?_, hL.fits, ?_, ?_⟩⟩
      · have hk := hL.leaf
        cases lf with
        | none => simp [lfoot] at hb
        | some l =>
          simp [lfoot] at hb
          subst hb
          have hl : Bk wc l.id 94 #[.string l.key, boxv l.val] := hk
          have := hl.ne_ hL.row.row (by decide)
          simpa using this
      · rw [len_prCells]
      · rw [hlen]; exact hL.room
      · have := hL.full
        rw [hd', List.size_toArray, List.length_append, len_prCells, hlen]
        rw [List.length_append, len_prCells, List.length_append] at this
        simpa using this
      · rw [hd']
        show List.take _ (prCells (prAdd ps (c, cid)) ++ sp) = _
        rw [← len_prCells]; exact List.take_left
    have hm : Mut w w2 (id :: ev.ownBlock.toList) := hL.turned.trans hS2.rest fun b hb => by
      have : b = g := by simpa using hb
      subst this
      exact hL.place.imp (fun h => by simp [h]) (fun h => h)
    have HF := Lib.hid hfin
    clear hp has2 hd' hlen hfin hS2
    go_wp2_with fail
    go_end0
    exact ⟨rfl, _, HF.out, hm, fun b hb => by
      have : g = b := by simpa [Value.ownBlock] using hb
      subst this
      exact hL.place⟩

end Go.Proofs.Ytaidaohkbbdimaa

namespace Go.Proofs.Ytaidaohkbbdimaa
open Go.RowKit

theorem NdOk.bel {w w' : World} {id : Nat} {lf : Option Lv} {pre : ByteArray} {ev : Value} {ps : List Pr} (h : NdOk w id lf pre ev ps) (hb : Below w.heap.size w w') : NdOk w' id lf pre ev ps := h.of fun b hb' => hb.block b (h.lt b hb')

theorem prCells_ptr_set : ∀ (l : List Pr) (i : Nat) (x : Pr) (h : i < l.length), l[i].1 = x.1 → prCells (l.set i x) = (prCells l).set (i * 2 + 1) (.pointer (some ⟨x.2, 0, none⟩))
  | [], _, _, h, _ => by simp at h
  | y :: r, 0, x, _, e => by
    have e' : y.1 = x.1 := e
    simp [prCells, e']
  | y :: r, i + 1, x, h, e => by
    have := prCells_ptr_set r i x (by simpa using h) (by simpa using e)
    rw [show (i + 1) * 2 + 1 = i * 2 + 1 + 1 + 1 by omega]
    simp [prCells, this]

/-- What updateEdge leaves. -/
def Updated (w : World) (id : Nat) (lf : Option Lv) (pre : ByteArray) (ev : Value) (ps : List Pr) (e : Ending) (w' : World) : Prop :=
  e = .returned (.tuple #[]) ∧ NdOk w' id lf pre ev ps ∧ Mut w w' ev.ownBlock.toList

set_option maxHeartbeats 1000000 in
theorem updateEdge_any {w : World} {id nid old : Nat} {lf : Option Lv} {pre : ByteArray} {ev : Value} {ps : List Pr} (c : UInt8) (hN : NdOk w id lf pre ev ps) (ha : Asc ps) (hf : prFind ps c = some old) :
    Calls Try.prog 70 #[.pointer (some ⟨id, 0, none⟩), .int .u8 c.toNat, .pointer (some ⟨nid, 0, none⟩)] w (Updated w id lf pre ev (ps.set (ix ps c) (c, nid))) := by
  have hl := asc_len ha
  have hid := hN.blk.lt
  have hc2 : w.cell? ⟨id, 2, none⟩ = some ev := by rw [hN.blk.cell]; rfl
  obtain ⟨W, hW⟩ : ∃ W, W = (w.alloc (.cells #[.pointer (some ⟨id, 0, none⟩)] 80)).alloc (.cells #[.int .u8 c.toNat] 5) := ⟨_, rfl⟩
  have hbW : Below w.heap.size w W := by rw [hW]; exact ((Below.refl _ _).alloc (Nat.le_refl _) _).alloc (by simp) _
  have k0 : W.cell? ⟨w.heap.size, 0, none⟩ = some (.pointer (some ⟨id, 0, none⟩)) := by rw [hW, Bk.cell ((Bk.new w _ _).alloc _)]; rfl
  have k1 : W.cell? ⟨w.heap.size + 1, 0, none⟩ = some (.int .u8 c.toNat) := by
    have := (Bk.new (w.alloc (.cells #[.pointer (some ⟨id, 0, none⟩)] 80)) 5 #[.int .u8 c.toNat]).cell 0
    rw [World.size_alloc] at this; rw [hW, this]; rfl
  have k2 : W.cell? ⟨id, 2, none⟩ = some ev := (hbW.cell (p := ⟨id, 2, none⟩) hid).trans hc2
  have hNW := hN.bel hbW
  have HN := Lib.hid hNW
  clear hNW
  rcases row_cells hN.row with ⟨rfl, rfl⟩ | ⟨g, cap, rfl, hcap, hg, hcs⟩
  · cases hf
  · have k3 : ∀ (i : Nat) (hi : i < ps.length), W.cell? ⟨g, i * 2, none⟩ = some (.int .u8 ps[i].1.toNat) ∧ W.cell? ⟨g, i * 2 + 1, none⟩ = some (.pointer (some ⟨ps[i].2, 0, none⟩)) := fun i hi =>
      ⟨(hbW.cell (p := ⟨g, i * 2, none⟩) hg).trans (hcs i hi).1, (hbW.cell (p := ⟨g, i * 2 + 1, none⟩) hg).trans (hcs i hi).2⟩
    have fz : ∀ j, W.frozen? ⟨g, j, none⟩ = false := fun j => HN.out.row.frozenAt j
    have hS : Calls Try.prog 74 #[.int .i64 ps.length, .func (.func 79) #[] #[.pointer (some ⟨w.heap.size, 0, none⟩), .pointer (some ⟨w.heap.size + 1, 0, none⟩)]] W (Searched ps.length (geB ps c) W) := by
      refine search_any _ _ _ _ _ _ (enters Try.func79 (by kernel_rfl) rfl) (by omega) (fun q i hi => ?_) (fun a b hab hb h => geB_mono ha c a b hab hb h)
      have := closure_upd (W.drewN q) w.heap.size (w.heap.size + 1) id g cap ps.length i c ps[i].1 hi k0 k1 k2 (k3 i hi).1
      unfold geB
      rw [List.getElem?_eq_getElem hi]
      exact this
    clear hcs hN
    go_enter Try.func70, Try.ntmps70
    go_wp2_with fail
    rw [← hW]
    refine hS.mono ?_
    clear hS
    rintro e w' ⟨k, q, hk, hlo, hhi, rfl, rfl⟩
    obtain rfl := search_ix ha hk hlo hhi
    clear hlo hhi hW hc2
    obtain ⟨hlt, he⟩ := prFind_some ha hf
    have fin : ∀ q, NdOk ((W.drewN q).setCell ⟨g, ix ps c * 2 + 1, none⟩ (.pointer (some ⟨nid, 0, none⟩))) id lf pre (.slice (some ⟨g, 0, none⟩) ps.length cap) (ps.set (ix ps c) (c, nid)) := fun q => by
      have hn := HN.out
      have hgid : id ≠ g := fun e => by
        have := own_ne_bk hn.row hn.blk (by decide)
        simp [Value.ownBlock, e] at this
      refine ⟨(hn.blk.drewN q).far (p := ⟨g, _, none⟩) hgid _, hn.leaf.of fun b hb => ?_, ?_⟩
      · have hk := hn.leaf
        cases lf with
        | none => simp [lfoot] at hb
        | some l =>
          simp [lfoot] at hb
          subst hb
          have hl : Bk W l.id 94 #[.string l.key, boxv l.val] := hk
          have := own_ne_bk hn.row hl (by decide)
          rw [Below.heap_setCell _ _ _ _ (show l.id ≠ g from fun e => by simp [Value.ownBlock, e] at this)]
          rfl
      · rw [prCells_ptr_set ps _ _ hlt (by rw [he])]
        have hrow : (W.drewN q).ownsRow 0 99 2 (.slice (some ⟨g, 0, none⟩) ps.length cap) ps.length (prCells ps) := hn.row
        have := (hrow.stored (ix ps c * 2 + 1) (.pointer (some ⟨nid, 0, none⟩))).1
        rw [List.length_set]
        exact this
    obtain ⟨k4, k5⟩ := k3 (ix ps c) hlt
    rw [he] at k4 k5
    have f5 := fz (ix ps c * 2 + 1)
    have FIN := Lib.hid fin
    clear k3 he hf hk fin fz HN
    generalize hP : ps.set (ix ps c) (c, nid) = P at *
    have HP := Lib.hid hP
    clear hP
    generalize ix ps c = k at *
    have hd : decide ((k : Int) < (ps.length : Int)) = true := by simpa using hlt
    go_wp2_with fail
    go_quiet (fail)
    go_wp2_with fail
    (try simp only [Exit.inBlock, Exit.then])
    refine bodyPost_ret (results_none rfl _ _ _) rfl ?_
    exact ⟨rfl, FIN.out _, ((Mut.of_below hbW).drewN _).setCell (Or.inl (by simp [Value.ownBlock])) _⟩

end Go.Proofs.Ytaidaohkbbdimaa

namespace Go.Proofs.Ytaidaohkbbdimaa
open Go.RowKit

/-- copy onto a row that is known whole, elements of any size. -/
theorem run_copy_whole {P : Program} (w : World) (dT sT ty elem : TypeId) (k g o dLen dCap : Nat) (a : Addr) (sLen sCap : Nat) (cur : Array Value) (t : TypeId) (cs : List Value)
    (hu : P.underlying dT = some (.slice elem)) (hs : (P.info? elem).map (·.size) = some k)
    (hg : w.heap[g]? = some (.cells cur t (0, 0))) (hn : cs.length = Nat.min sLen dLen * k)
    (hsrc : ∀ j v, cs[j]? = some v → w.cell? (a.add j) = some v) (hfit : o + cs.length ≤ cur.size) (h1 : ∀ v ∈ cs, v.oneCell' = true) :
    (Builtin.copy_ #[dT, sT] ty #[.slice (some ⟨g, o, none⟩) dLen dCap, .slice (some a) sLen sCap]).run P w =
      .ok (goInt (Nat.min sLen dLen)) (w.setRow g (cur.toList.take o ++ cs ++ cur.toList.drop (o + cs.length)).toArray) := by
  have hl := run_loadCells_list (P := P) w a cs hsrc
  have hst := run_storeCells_at P g o t cs 0 cur w hg (by simpa using hfit) h1
  cases hq : P.info? elem with
  | none => simp [hq] at hs
  | some i =>
    have hi : i.size = k := by simpa [hq] using hs
    simp [Builtin.copy_, run_underlying hu, Builtin.lenOf, Builtin.firstCells, sizeOf, typeInfo, hq, hi, ← hn, hl, hst]

theorem step_copy_whole {P : Program} {ops : Array Oper} {o : Oper} {a : Act} {w : World} {K : Act → World → Prop} {Q : Exit → Act → World → Prop} {E : Prop} (hgd : o.guard = none) (d s : Operand) (dT sT : TypeId)
    (ho : o.op = .call { callee := .builtin .copy, args := #[d, s], argTypes := #[dT, sT] }) (elem : TypeId) (k : Nat) (hu : P.underlying dT = some (.slice elem)) (hsz : (P.info? elem).map (·.size) = some k)
    (ad : Addr) (g off dLen dCap sLen sCap : Nat) (hd : a.eval d = .slice (some ⟨g, off, none⟩) dLen dCap) (hs : a.eval s = .slice (some ad) sLen sCap)
    (cur : Array Value) (t : TypeId) (hg : w.heap[g]? = some (.cells cur t (0, 0))) (cs : List Value) (hn : cs.length = Nat.min sLen dLen * k)
    (hsrc : ∀ j v, cs[j]? = some v → w.cell? (ad.add j) = some v) (hfit : off + cs.length ≤ cur.size) (h1 : ∀ v ∈ cs, v.oneCell' = true)
    (h : K (a.put o.dst (goInt (Nat.min sLen dLen))) (w.setRow g (cur.toList.take off ++ cs ++ cur.toList.drop (off + cs.length)).toArray)) :
    if Region.wanted o (yielded ops a.tmps) = true then Oper.wp P o a w K Q else E := by
  have hw : Region.wanted o (yielded ops a.tmps) = true := by simp [Region.wanted, hgd]
  rw [if_pos hw]
  have hrun := run_copy_whole (P := P) w dT sT o.type elem k g off dLen dCap ad sLen sCap cur t cs hu hsz hg hn hsrc hfit h1
  unfold Oper.wp
  simp only [execOp, ho, resolve, invoke, builtin, Sem.run_bind, Sem.run_pure, Result.andThen_ok, List.map_toArray, List.map_cons, List.map_nil, hd, hs, hrun]
  exact h

/-- What delEdge leaves. -/
def Deleted (w : World) (id : Nat) (lf : Option Lv) (pre : ByteArray) (ev : Value) (ps : List Pr) (e : Ending) (w' : World) : Prop :=
  e = .returned (.tuple #[]) ∧ ∃ ev', NdOk w' id lf pre ev' ps ∧ Mut w w' (id :: ev.ownBlock.toList) ∧ (∀ b, ev'.ownBlock = some b → ev.ownBlock = some b)

/-- The row with the edge at k taken out, the node not yet told. -/
structure Gone (W : World) (id g : Nat) (lf : Option Lv) (pre : ByteArray) (n cap : Nat) (P : List Pr) (w' : World) : Prop where
  node : Bk w' id 85 #[lptr lf, .string pre, .slice (some ⟨g, 0, none⟩) n cap]
  leaf : LfOk w' lf
  row : ∃ L : List Value, Bk w' g 99 (prCells P ++ L).toArray ∧ L.length = (cap - P.length) * 2
  turned : Mut W w' [g]

theorem Bk.setRow {w : World} {g : Nat} {t : TypeId} {cs : Array Value} (h : Bk w g t cs) (cs' : Array Value) : Bk (w.setRow g cs') g t cs' := by
  unfold Bk at h ⊢
  simp only [World.setRow, Array.getElem?_modify, if_true, h]
  rfl
theorem Mut.setRow {a w : World} {F : List Nat} {g : Nat} (h : Mut a w F) (hg : g ∈ F) (cs : Array Value) : Mut a (w.setRow g cs) F :=
  ⟨h.os, h.tape, h.output, by rw [show (w.setRow g cs).heap.size = w.heap.size by simp [World.setRow]]; exact h.size, fun b hb hF => (setRow_other w g b cs (fun e => hF (e ▸ hg))).trans (h.block b hb hF)⟩

theorem leaf_ne {w : World} {id : Nat} {lf : Option Lv} {pre : ByteArray} {ev : Value} {ps : List Pr} (h : NdOk w id lf pre ev ps) : ∀ b ∈ lfoot lf, b ≠ id ∧ b ∉ ev.ownBlock.toList := by
  intro b hb
  cases lf with
  | none => simp [lfoot] at hb
  | some l =>
    simp [lfoot] at hb
    subst hb
    have hl : Bk w l.id 94 #[.string l.key, boxv l.val] := h.leaf
    exact ⟨hl.ne_ h.blk (by decide), by have := own_ne_bk h.row hl (by decide); simpa using this⟩

theorem prCells_one : ∀ (l : List Pr), ∀ v ∈ prCells l, v.oneCell' = true
  | [], _, h => by cases h
  | x :: r, v, h => by
    simp only [prCells, List.mem_cons] at h
    rcases h with rfl | rfl | h
    · rfl
    · rfl
    · exact prCells_one r v h

theorem step_del {ops : Array Oper} {o : Oper} {a : Act} {K : Act → World → Prop} {Q : Exit → Act → World → Prop} {E : Prop} {W w : World} {id g cap k c1 c2 : Nat} {lf : Option Lv} {pre : ByteArray} {ps P : List Pr} (hgd : o.guard = none)
    (ho : o.op = .call { callee := .builtin .copy, args := #[.tmp 34, .tmp 41], argTypes := #[83, 83] }) (hN : NdOk w id lf pre (.slice (some ⟨g, 0, none⟩) ps.length cap) ps) (hm : Mut W w [g]) (hk : k < ps.length) (hP : ps.eraseIdx k = P)
    (hd : a.eval (.tmp 34) = .slice (some ⟨g, k * 2, none⟩) (ps.length - k) c1) (ad : Addr) (sLen : Nat) (hs : a.eval (.tmp 41) = .slice (some ad) sLen c2) (hsl : sLen = ps.length - (k + 1)) (had : k + 1 < ps.length → ad = ⟨g, (k + 1) * 2, none⟩)
    (h : ∀ n w', Gone W id g lf pre ps.length cap P w' → K (a.put o.dst (.int .i64 n)) w') :
    if Region.wanted o (yielded ops a.tmps) = true then Oper.wp Try.prog o a w K Q else E := by
  subst hsl
  obtain ⟨hxl, hrow⟩ := hN.row
  rcases hrow with ⟨h1, _⟩ | ⟨g', cap', cur, h1, _, hg, hnc, hcm, hcs, htake⟩
  · cases h1
  simp only [Value.slice.injEq, Option.some.injEq, Addr.mk.injEq, and_true, true_and] at h1
  obtain ⟨rfl, rfl⟩ := h1
  have hB : Bk w g 99 cur := hg
  have hgid : g ≠ id := fun e => (hB.ne_ hN.blk (by decide)) e
  have hPe : P = ps.take k ++ ps.drop (k + 1) := by rw [← hP, List.eraseIdx_eq_take_drop_succ]
  have hPl : P.length = ps.length - 1 := by rw [hPe]; simp; omega
  have hcl : (prCells (ps.drop (k + 1))).length = (ps.length - (k + 1)) * 2 := by rw [len_prCells]; simp
  obtain ⟨i0, hi, hz0, hz1, hz2⟩ := info_parts info_edge
  refine step_copy_whole hgd (.tmp 34) (.tmp 41) 83 83 ho 99 2 Try.underlying83 (by rw [hi, ← hz1]; rfl) ad g (k * 2) _ _ _ _ hd hs cur 99 hg (prCells (ps.drop (k + 1))) ?_ ?_ ?_ ?_ ?_
  · rw [hcl, show Nat.min (ps.length - (k + 1)) (ps.length - k) = ps.length - (k + 1) from Nat.min_eq_left (by omega)]
  · intro j v hj
    have hjl : j < (ps.length - (k + 1)) * 2 := by
      have := (List.getElem?_eq_some_iff.1 hj).1
      omega
    rw [had (by omega)]
    rw [show (Addr.mk g ((k + 1) * 2) none).add j = ⟨g, (k + 1) * 2 + j, none⟩ by unfold Addr.add; split <;> simp_all]
    rw [hB.cell, ← Array.getElem?_toList]
    have e1 : cur.toList[(k + 1) * 2 + j]? = (prCells ps)[(k + 1) * 2 + j]? := by
      rw [← htake, List.getElem?_take, if_pos (by omega)]
    have e2 : prCells ps = prCells (ps.take (k + 1)) ++ prCells (ps.drop (k + 1)) := by rw [← prCells_app, List.take_append_drop]
    have e3 : (prCells (ps.take (k + 1))).length = (k + 1) * 2 := by rw [len_prCells, List.length_take, Nat.min_eq_left (by omega)]
    rw [e1, e2, List.getElem?_append_right (by omega), e3, Nat.add_sub_cancel_left]
    exact hj
  · rw [hcl, hcs]; omega
  · exact prCells_one (ps.drop (k + 1))
  · refine h _ _ ⟨?_, ?_, ⟨cur.toList.drop (P.length * 2), ?_, ?_⟩, hm.setRow (by simp) _⟩
    · exact hN.blk.of (setRow_other w g id _ (Ne.symm hgid))
    · exact hN.leaf.of fun b hb => setRow_other w g b _ (by have := (leaf_ne hN b hb).2; simpa [Value.ownBlock, eq_comm] using this)
    · have e1 : cur.toList.take (k * 2) = prCells (ps.take k) := by
        have : cur.toList.take (k * 2) = (prCells ps).take (k * 2) := by rw [← htake, List.take_take, Nat.min_eq_left (by omega)]
        rw [this]
        have e2 : prCells ps = prCells (ps.take k) ++ prCells (ps.drop k) := by rw [← prCells_app, List.take_append_drop]
        have e3 : (prCells (ps.take k)).length = k * 2 := by rw [len_prCells, List.length_take, Nat.min_eq_left (by omega)]
        rw [e2, ← e3, List.take_left]
      have e4 : k * 2 + (prCells (ps.drop (k + 1))).length = P.length * 2 := by rw [hcl, hPl]; omega
      rw [e1, e4, ← prCells_app, ← hPe]
      exact hB.setRow _
    · rw [List.length_drop, Array.length_toList, hcs]; omega

theorem Gone.gid {W w' : World} {id g n cap : Nat} {lf : Option Lv} {pre : ByteArray} {P : List Pr} (h : Gone W id g lf pre n cap P w') : g ≠ id := by
  obtain ⟨L, hrow, _⟩ := h.row
  exact hrow.ne_ h.node (by decide)
theorem Gone.leafs {W w' : World} {id g n cap : Nat} {lf : Option Lv} {pre : ByteArray} {P : List Pr} (h : Gone W id g lf pre n cap P w') : ∀ b ∈ lfoot lf, b ≠ id ∧ b ≠ g := by
  intro b hb
  obtain ⟨L, hrow, _⟩ := h.row
  have hk := h.leaf
  cases lf with
  | none => simp [lfoot] at hb
  | some l =>
    simp [lfoot] at hb
    subst hb
    have hl : Bk w' l.id 94 #[.string l.key, boxv l.val] := hk
    exact ⟨hl.ne_ h.node (by decide), hl.ne_ hrow (by decide)⟩

theorem Gone.drew {W w' : World} {id g n cap : Nat} {lf : Option Lv} {pre : ByteArray} {P : List Pr} (h : Gone W id g lf pre n cap P w') : Gone W id g lf pre n cap P w'.drew :=
  ⟨h.node, h.leaf, h.row, h.turned.drew⟩

theorem Gone.drewN {W w' : World} {id g n cap : Nat} {lf : Option Lv} {pre : ByteArray} {P : List Pr} (h : Gone W id g lf pre n cap P w') (q : Nat) : Gone W id g lf pre n cap P (w'.drewN q) :=
  ⟨h.node, h.leaf, h.row, h.turned.drewN q⟩

theorem Gone.put {W w' : World} {id g n cap : Nat} {lf : Option Lv} {pre : ByteArray} {P : List Pr} (h : Gone W id g lf pre n cap P w') (i : Nat) (hi : P.length * 2 ≤ i) (v : Value) : Gone W id g lf pre n cap P (w'.setCell ⟨g, i, none⟩ v) := by
  obtain ⟨L, hrow, hL⟩ := h.row
  have hg := h.gid
  have hl := h.leafs
  refine ⟨h.node.far (p := ⟨g, _, none⟩) (Ne.symm hg) _, h.leaf.of fun b hb => Below.heap_setCell _ _ _ _ (hl b hb).2, ⟨L.set (i - P.length * 2) v, ?_, by rw [List.length_set]; exact hL⟩, h.turned.setCell (Or.inl (by simp)) _⟩
  have := hrow.set_ i v
  rw [show (prCells P ++ L).toArray.setIfInBounds i v = (prCells P ++ L.set (i - P.length * 2) v).toArray from by
    rw [List.setIfInBounds_toArray, List.set_append_right _ _ (by rw [len_prCells]; exact hi), len_prCells]] at this
  exact this

theorem Gone.done {W w' : World} {id g n cap : Nat} {lf : Option Lv} {pre : ByteArray} {P : List Pr} (h : Gone W id g lf pre n cap P w') (hc : P.length ≤ cap) (hm : cap ≤ maxLen) (v : Value) (hv : v = .slice (some ⟨g, 0, none⟩) P.length cap) :
    NdOk (w'.setCell ⟨id, 2, none⟩ v) id lf pre v P := by
  subst hv
  obtain ⟨L, hrow, hL⟩ := h.row
  have hg := h.gid
  have hl := h.leafs
  refine ⟨h.node.set_ 2 _, h.leaf.of fun b hb => Below.heap_setCell _ _ _ _ (hl b hb).1, ⟨len_prCells P, Or.inr ⟨g, cap, _, rfl, Nat.zero_le _, hrow.far (p := ⟨id, 2, none⟩) hg _, hc, hm, ?_, ?_⟩⟩⟩
  · rw [List.size_toArray, List.length_append, len_prCells, hL]; omega
  · rw [← len_prCells]; exact List.take_left

set_option maxHeartbeats 2000000 in
set_option maxRecDepth 100000 in
theorem delEdge_any {w : World} {id old : Nat} {lf : Option Lv} {pre : ByteArray} {ev : Value} {ps : List Pr} (c : UInt8) (hN : NdOk w id lf pre ev ps) (ha : Asc ps) (hf : prFind ps c = some old) :
    Calls Try.prog 71 #[.pointer (some ⟨id, 0, none⟩), .int .u8 c.toNat] w (Deleted w id lf pre ev (ps.eraseIdx (ix ps c))) := by
  have hl := asc_len ha
  have hid := hN.blk.lt
  have hc2 : w.cell? ⟨id, 2, none⟩ = some ev := by rw [hN.blk.cell]; rfl
  obtain ⟨W, hW⟩ : ∃ W, W = (w.alloc (.cells #[.pointer (some ⟨id, 0, none⟩)] 80)).alloc (.cells #[.int .u8 c.toNat] 5) := ⟨_, rfl⟩
  have hbW : Below w.heap.size w W := by rw [hW]; exact ((Below.refl _ _).alloc (Nat.le_refl _) _).alloc (by simp) _
  have k0 : W.cell? ⟨w.heap.size, 0, none⟩ = some (.pointer (some ⟨id, 0, none⟩)) := by rw [hW, Bk.cell ((Bk.new w _ _).alloc _)]; rfl
  have k1 : W.cell? ⟨w.heap.size + 1, 0, none⟩ = some (.int .u8 c.toNat) := by
    have := (Bk.new (w.alloc (.cells #[.pointer (some ⟨id, 0, none⟩)] 80)) 5 #[.int .u8 c.toNat]).cell 0
    rw [World.size_alloc] at this; rw [hW, this]; rfl
  have k2 : W.cell? ⟨id, 2, none⟩ = some ev := (hbW.cell (p := ⟨id, 2, none⟩) hid).trans hc2
  have hNW := hN.bel hbW
  have HN := Lib.hid hNW
  clear hNW
  rcases row_cells hN.row with ⟨rfl, rfl⟩ | ⟨g, cap, rfl, hcap, hg, hcs⟩
  · cases hf
  · have k3 : ∀ (i : Nat) (hi : i < ps.length), W.cell? ⟨g, i * 2, none⟩ = some (.int .u8 ps[i].1.toNat) ∧ W.cell? ⟨g, i * 2 + 1, none⟩ = some (.pointer (some ⟨ps[i].2, 0, none⟩)) := fun i hi =>
      ⟨(hbW.cell (p := ⟨g, i * 2, none⟩) hg).trans (hcs i hi).1, (hbW.cell (p := ⟨g, i * 2 + 1, none⟩) hg).trans (hcs i hi).2⟩
    have hS : Calls Try.prog 74 #[.int .i64 ps.length, .func (.func 80) #[] #[.pointer (some ⟨w.heap.size, 0, none⟩), .pointer (some ⟨w.heap.size + 1, 0, none⟩)]] W (Searched ps.length (geB ps c) W) := by
      refine search_any _ _ _ _ _ _ (enters Try.func80 (by kernel_rfl) rfl) (by omega) (fun q i hi => ?_) (fun a b hab hb h => geB_mono ha c a b hab hb h)
      have := closure_del (W.drewN q) w.heap.size (w.heap.size + 1) id g cap ps.length i c ps[i].1 hi k0 k1 k2 (k3 i hi).1
      unfold geB
      rw [List.getElem?_eq_getElem hi]
      exact this
    clear hcs hN
    go_enter Try.func71, Try.ntmps71
    go_wp2_with fail
    rw [← hW]
    refine hS.mono ?_
    clear hS
    rintro e w' ⟨k, q, hk, hlo, hhi, rfl, rfl⟩
    obtain rfl := search_ix ha hk hlo hhi
    have hW2 : W.heap.size = w.heap.size + 2 := by rw [hW]; simp
    clear hlo hhi hW hc2
    obtain ⟨hlt, he⟩ := prFind_some ha hf
    obtain ⟨k4, k5⟩ := k3 (ix ps c) hlt
    rw [he] at k4 k5
    clear k3 he hf hk
    generalize hP : ps.eraseIdx (ix ps c) = P at *
    have HP := Lib.hid hP
    clear hP
    generalize ix ps c = k at *
    have hd : decide ((k : Int) < (ps.length : Int)) = true := by simpa using hlt
    go_wp2_with fail
    go_quiet (fail)
    go_wp2_with fail
    have hkc : ¬ cap = k := by omega
    have hk1 : k ≤ ps.length := by omega
    have hk2 : k + 1 ≤ ps.length := by omega
    have hk3 : (0 : Int) ≤ (k : Int) + 1 := by omega
    have hk5 : IntKind.i64.wrap ((k : Int) + 1) = (k : Int) + 1 := IntWalk.i64_in _ (by omega)
    have hk4 : (k : Int) + 1 ≤ (ps.length : Int) := by omega
    have HNb : ∀ q, NdOk (W.drewN q) id lf pre (.slice (some ⟨g, 0, none⟩) ps.length cap) ps := fun q => HN.out.bel (below_drewN (Below.refl _ _) q)
    have HMb : ∀ q, Mut W (W.drewN q) [g] := fun q => (Mut.refl W [g]).drewN q
    go_cut [42] (fun _ wx => Gone W id g lf pre ps.length cap P wx)
    case first =>
      by_cases hc : cap = k + 1
      · subst hc
        go_region_law (refine step_del (k := k) rfl rfl (HNb _) (HMb _) hlt HP.out rfl _ _ rfl (by omega) (fun h => by omega) ?_; intro nn w1 hL)
        all_goals (go_wp2_with fail; go_meet; exact hL)
      · go_region_law (refine step_del (k := k) rfl rfl (HNb _) (HMb _) hlt HP.out rfl _ _ rfl (by omega) (fun h => rfl) ?_; intro nn w1 hL)
        all_goals (go_wp2_with fail; go_meet; exact hL)
    case rest =>
      have hPl : P.length = ps.length - 1 := by rw [← HP.out, List.length_eraseIdx]; simp [hlt]
      have hG := hcut
      have hmx : cap ≤ maxLen := by
        rcases HN.out.row.2 with ⟨h1, _⟩ | ⟨g', cap', cur, h1, _, _, _, h2, _⟩
        · cases h1
        · cases h1; exact h2
      clear hcut k2 k4 k5 HN HNb HMb hd HP hk1 hk2 hk3 hk4 hk5 hkc ha
      generalize ps.length = n at *
      obtain rfl : n = P.length + 1 := by omega
      clear hPl
      generalize hp : P.length = p at *
      have hsz : w.heap.size + 2 ≤ W.heap.size := by rw [hW2]; simp
      have k6 : wc.cell? ⟨id, 2, none⟩ = some (.slice (some ⟨g, 0, none⟩) (p + 1) cap) := by rw [hG.node.cell]; rfl
      have k7 : wc.cell? ⟨w.heap.size, 0, none⟩ = some (.pointer (some ⟨id, 0, none⟩)) := (World.cell?_of_block (a := ⟨w.heap.size, 0, none⟩) (hG.turned.block w.heap.size (by omega) (by simp; omega))).trans k0
      obtain ⟨L, hrow, hL⟩ := hG.row
      have f6 : wc.frozen? ⟨g, p * 2, none⟩ = false := hrow.frozen _
      have f7 : wc.frozen? ⟨g, p * 2 + 1, none⟩ = false := hrow.frozen _
      obtain ⟨a0, b0, L0, rfl⟩ : ∃ a0 b0 L0, L = a0 :: b0 :: L0 := by
        match L, hL with
        | [], hL => simp at hL; omega
        | [_], hL => simp at hL; omega
        | a0 :: b0 :: L0, _ => exact ⟨_, _, _, rfl⟩
      have k8 : wc.cell? ⟨g, p * 2, none⟩ = some a0 := by
        rw [hrow.cell, List.getElem?_toArray, List.getElem?_append_right (by rw [len_prCells, hp]; omega), len_prCells, hp]; simp
      have k9 : wc.cell? ⟨g, p * 2 + 1, none⟩ = some b0 := by
        rw [hrow.cell, List.getElem?_toArray, List.getElem?_append_right (by rw [len_prCells, hp]; omega), len_prCells, hp]; simp
      have hHG := Lib.hid hG
      clear hG k1 hrow hL
      go_wp2_with fail
      go_cut [54] (fun _ wx => Gone W id g lf pre (p + 1) cap P wx)
      case first =>
        go_region
        all_goals (go_wp2_with fail; go_meet; exact (hHG.out.drew.put _ (by omega) _).put _ (by omega) _)
      case rest =>
        have hG := hcut
        clear hcut k6 k8 k9 f6 f7 hHG
        have k6 : wc.cell? ⟨id, 2, none⟩ = some (.slice (some ⟨g, 0, none⟩) (p + 1) cap) := by rw [hG.node.cell]; rfl
        have k7 : wc.cell? ⟨w.heap.size, 0, none⟩ = some (.pointer (some ⟨id, 0, none⟩)) := (World.cell?_of_block (a := ⟨w.heap.size, 0, none⟩) (hG.turned.block w.heap.size (by omega) (by simp; omega))).trans k0
        have f8 : wc.frozen? ⟨id, 2, none⟩ = false := hG.node.frozen 2
        have hfin := fun q => Gone.done (hG.drewN q) (by omega) hmx (.slice (some ⟨g, 0, none⟩) p cap) (by rw [hp])
        have hm := fun q => ((((Mut.of_below hbW (F := [id, g])).trans (hG.turned.mono (G := [id, g]) (by simp)) (by simp)).drewN q).setCell (p := ⟨id, 2, none⟩) (Or.inl (by simp)) (.slice (some ⟨g, 0, none⟩) p cap))
        have HF := Lib.hid hfin
        clear hfin hG k0 hbW hp
        go_wp2_with fail
        go_region
        go_end0
        exact ⟨rfl, _, HF.out 1, hm 1, fun b hb => hb⟩

end Go.Proofs.Ytaidaohkbbdimaa

namespace Go.Proofs.Ytaidaohkbbdimaa
open Go.RowKit

/-- What mergeChild leaves: the node has taken its only child in. -/
def Merged (w : World) (id : Nat) (lf : Option Lv) (pre : ByteArray) (ev : Value) (ps : List Pr) (e : Ending) (w' : World) : Prop :=
  e = .returned (.tuple #[]) ∧ NdOk w' id lf pre ev ps ∧ Mut w w' [id]

theorem NdOk.turn {w w' : World} {id cid : Nat} {lf clf : Option Lv} {pre cpre p : ByteArray} {ev cev : Value} {ps cps : List Pr} (hN : NdOk w id lf pre ev ps) (hC : NdOk w cid clf cpre cev cps)
    (hk : Bk w' id 85 #[lptr clf, .string p, cev]) (hm : Mut w w' [id]) : NdOk w' id clf p cev cps := by
  refine ⟨hk, hC.leaf.of fun b hb => hm.block b (hC.leaf.lt b hb) ?_, own_of hC.row fun b hb => hm.block b (own_lt hC.row hb) ?_⟩
  · have hl := hC.leaf
    cases clf with
    | none => simp [lfoot] at hb
    | some l =>
      simp [lfoot] at hb
      subst hb
      have hl : Bk w l.id 94 #[.string l.key, boxv l.val] := hl
      have := hl.ne_ hN.blk (by decide)
      simpa using this
  · have := own_ne_bk hC.row hN.blk (by decide)
    intro hi
    have e : b = id := by simpa using hi
    subst e
    exact this (by simpa using hb)

theorem lptr_ptr : ∀ lf : Option Lv, ∃ p, lptr lf = .pointer p
  | none => ⟨_, rfl⟩
  | some _ => ⟨_, rfl⟩
theorem row_slice {w : World} {b : Nat} {e : TypeId} {k : Nat} {v : Value} {n : Nat} {xs : List Value} (h : w.ownsRow b e k v n xs) : ∃ a n c, v = .slice a n c := by
  rcases h.2 with ⟨h, _⟩ | ⟨g, cap, cur, h, _⟩
  · exact ⟨_, _, _, h⟩
  · exact ⟨_, _, _, h⟩

set_option maxHeartbeats 2000000 in
set_option maxRecDepth 100000 in
theorem mergeChild_any {w : World} {id cid : Nat} {c : UInt8} {lf clf : Option Lv} {pre cpre : ByteArray} {ev cev : Value} {cps : List Pr} (hN : NdOk w id lf pre ev [(c, cid)]) (hC : NdOk w cid clf cpre cev cps) (hne : ¬ cid = id) (hs : pre.size + cpre.size ≤ 100000) :
    Calls Try.prog 72 #[.pointer (some ⟨id, 0, none⟩)] w (Merged w id clf (pre ++ cpre) cev cps) := by
  have hid := hN.blk.lt
  have hcid := hC.blk.lt
  have c1 : w.cell? ⟨id, 1, none⟩ = some (.string pre) := by rw [hN.blk.cell]; rfl
  have c2 : w.cell? ⟨id, 2, none⟩ = some ev := by rw [hN.blk.cell]; rfl
  have c0 : w.cell? ⟨id, 0, none⟩ = some (lptr lf) := by rw [hN.blk.cell]; rfl
  have d0 : w.cell? ⟨cid, 0, none⟩ = some (lptr clf) := by rw [hC.blk.cell]; rfl
  have d1 : w.cell? ⟨cid, 1, none⟩ = some (.string cpre) := by rw [hC.blk.cell]; rfl
  have d2 : w.cell? ⟨cid, 2, none⟩ = some cev := by rw [hC.blk.cell]; rfl
  rcases row_cells hN.row with ⟨rfl, h⟩ | ⟨g, cap, rfl, hcap, hg, hcs⟩
  · cases h
  have c3 : w.cell? ⟨g, 0, none⟩ = some (.int .u8 c.toNat) := (hcs 0 (by simp)).1
  have c4 : w.cell? ⟨g, 1, none⟩ = some (.pointer (some ⟨cid, 0, none⟩)) := (hcs 0 (by simp)).2
  have f0 : w.frozen? ⟨id, 0, none⟩ = false := hN.blk.frozen _
  have f1 : w.frozen? ⟨id, 1, none⟩ = false := hN.blk.frozen _
  have f2 : w.frozen? ⟨id, 2, none⟩ = false := hN.blk.frozen _
  have hsz : ((pre.size : Int) + (cpre.size : Int)) ≤ 9223372036854775807 := by omega
  obtain ⟨p0, hp0⟩ := lptr_ptr lf
  obtain ⟨q0, hq0⟩ := lptr_ptr clf
  obtain ⟨ca, cn, cc, hcv⟩ := row_slice hC.row
  rw [hp0] at c0
  rw [hq0] at d0
  rw [hcv] at d2
  have fin : ∀ {w1 w2 : World}, Below w.heap.size w w1 → w1.heap.size ≤ w2.heap.size → True := fun _ _ => trivial
  have HN := Lib.hid hN
  have HC := Lib.hid hC
  have HQ := Lib.hid hq0
  have HV := Lib.hid hcv
  clear hN hC hcs hs fin hp0 hq0 hcv
  have hne2 : ¬ id = cid := fun e => hne e.symm
  go_enter Try.func72, Try.ntmps72
  go_wp2_with fail
  go_region
  go_wp2_with fail
  go_end0
  have hk : Bk ((((w.setCell ⟨id, 1, none⟩ (.string (pre ++ cpre))).setCell ⟨id, 0, none⟩ (.pointer q0)).setCell ⟨id, 2, none⟩ (.slice ca cn cc)).alloc (.cells #[.int .u8 c.toNat, .pointer (some ⟨cid, 0, none⟩)] 99)).drew id 85 #[lptr clf, .string (pre ++ cpre), cev] := by
    rw [HQ.out, HV.out]
    exact ((((HN.out.blk.set_ 1 _).set_ 0 _).set_ 2 _).alloc _).drew
  have hm : Mut w ((((w.setCell ⟨id, 1, none⟩ (.string (pre ++ cpre))).setCell ⟨id, 0, none⟩ (.pointer q0)).setCell ⟨id, 2, none⟩ (.slice ca cn cc)).alloc (.cells #[.int .u8 c.toNat, .pointer (some ⟨cid, 0, none⟩)] 99)).drew [id] :=
    (((((Mut.refl w [id]).setCell (Or.inl (by simp)) _).setCell (Or.inl (by simp)) _).setCell (Or.inl (by simp)) _).alloc _).drew
  exact ⟨rfl, NdOk.turn HN.out HC.out hk hm, hm⟩

end Go.Proofs.Ytaidaohkbbdimaa
