/-
  The walks, part F4: the stages of a deletion's end (no program in sight).
  The walks, part F3: Delete, the walk.
-/
import Derived.Test.YtaidaohkbbdimaaWF
import Derived.Test.YtaidaohkbbdimaaWG
import Derived.LaidEqlPtr
import Derived.Test.YtaidaohkbbdimaaWI
import Derived.WalkMore
import Derived.ScopeJumps
import Derived.Deep.CutRange
import Derived.Deep.DeepCutAuto
namespace Go.Proofs.Ytaidaohkbbdimaa
open Go.RowKit

theorem At.find_set : ∀ {T : At} {c : UInt8} {a : An} (m : An), T.find c = some a → (T.set c m).find c = some m
  | .nil, _, _, _, h => by cases h
  | .cons id d lf pre ev k r, c, a, m, h => by
    unfold find at h
    unfold set
    by_cases hc : d = c
    · rw [if_pos hc]; unfold find; rw [if_pos hc]
    · rw [if_neg hc] at h ⊢
      unfold find
      rw [if_neg hc]
      exact At.find_set m h
theorem At.cut1_set : ∀ {T : At} {c : UInt8} {m : An}, (T.set c m).cut1 c = T.cut1 c
  | .nil, _, _ => rfl
  | .cons id d lf pre ev k r, c, m => by
    unfold set
    by_cases hc : d = c
    · rw [if_pos hc]; unfold cut1; rw [if_pos hc, if_pos hc]
    · rw [if_neg hc]; unfold cut1; rw [if_neg hc, if_neg hc, At.cut1_set]

/-- The world with the size told alone; with the leaf taken off, too. -/
def dl0 (w : World) (t : Nat) (z : Int) : World := w.setCell ⟨t, 1, none⟩ (.int .i64 z)
def dl1 (w : World) (t id : Nat) (z : Int) : World := (w.setCell ⟨id, 0, none⟩ (.pointer none)).setCell ⟨t, 1, none⟩ (.int .i64 z)

structure Off (wr : World) (t : Nat) (n sub : An) (l : Lv) (z : Int) : Prop where
  size : Mut wr (dl0 wr t z) [t]
  tree : Bk (dl0 wr t z) t 87 #[.pointer (some ⟨n.id, 0, none⟩), .int .i64 z]
  tree1 : Bk (dl1 wr t sub.id z) t 87 #[.pointer (some ⟨n.id, 0, none⟩), .int .i64 z]
  turn : Turn (dl0 wr t z) (dl1 wr t sub.id z) sub { sub with lf := none }
  leaf : Bk (dl1 wr t sub.id z) l.id 94 #[.string l.key, boxv l.val]
  rest : ∀ m : An, m.ok wr → t ∉ m.foot → m.ok (dl0 wr t z)

theorem Off.of {wr : World} {t : Nat} {n sub : An} {l : Lv} (z : Int) (h : Tr wr t n) (hsub : sub.ok wr) (hn : sub.foot.Nodup) (hlf : sub.lf = some l) : Off wr t n sub l z := by
  have hN := hsub.1
  have htid : t ≠ sub.id := h.blk.ne_ hN.blk (by decide)
  have htf : t ∉ sub.foot := fun hi => (An.kind hsub t hi).no h.blk (by decide) (by decide) (by decide)
  have hL : Bk wr l.id 94 #[.string l.key, boxv l.val] := by have := hN.leaf; rw [hlf] at this; exact this
  have hlt : l.id ≠ t := hL.ne_ h.blk (by decide)
  have hls : l.id ≠ sub.id := hL.ne_ hN.blk (by decide)
  have hm0 : Mut wr (dl0 wr t z) [t] := (Mut.refl wr _).setCell (Or.inl (by simp)) _
  have hm : Mut wr (dl1 wr t sub.id z) [t, sub.id] := ((Mut.refl wr _).setCell (Or.inl (by simp)) _).setCell (Or.inl (by simp)) _
  have hk0 : Bk (dl0 wr t z) t 87 #[.pointer (some ⟨n.id, 0, none⟩), .int .i64 z] := h.blk.set_ 1 _
  have hk1 : Bk (dl1 wr t sub.id z) t 87 #[.pointer (some ⟨n.id, 0, none⟩), .int .i64 z] := (h.blk.far (p := ⟨sub.id, 0, none⟩) htid _).set_ 1 _
  have hrest : ∀ m : An, m.ok wr → t ∉ m.foot → m.ok (dl0 wr t z) := fun m hm ht => An.keep hm hm0 fun b hb hi => by
    have e : b = t := by simpa using hi
    subst e; exact ht hb
  have hm1 : Mut (dl0 wr t z) (dl1 wr t sub.id z) [sub.id] := Mut.swap (p := ⟨t, 1, none⟩) (u := .int .i64 z) hm (hk1.trans hk0.symm)
  refine ⟨hm0, hk0, hk1, turn_nolf (hrest sub hsub htf) hn hm1 ?_, ?_, hrest⟩
  · exact (hN.blk.set_ 0 _).far (p := ⟨t, 1, none⟩) (Ne.symm htid) _
  · exact (hL.far (p := ⟨sub.id, 0, none⟩) hls _).far (p := ⟨t, 1, none⟩) hlt _

/-- The world behind the second stage: the child is gone or taken in. -/
structure Cutd (w0 w3 : World) (P P1 : An) (l : Lv) (D : Nd) : Prop where
  turn : Turn w0 w3 P P1
  lf : P1.lf = P.lf
  er : P1.er = D
  leaf : Bk w3 l.id 94 #[.string l.key, boxv l.val]

theorem dl_up {w0 w2 : World} {P sub sub0 : An} {c : UInt8} (hP : P.ok w0) (hn : P.foot.Nodup) (hf : P.kids.find c = some sub) (hT : Turn w0 w2 sub sub0) :
    Turn w0 w2 P { P with kids := P.kids.set c sub0 } := by
  obtain ⟨R', hC, _⟩ := (Ctx.refl P).step hf
  exact hC.turn hP hn hT

theorem sub_nodup {P sub : An} {c : UInt8} (hn : P.foot.Nodup) (hf : P.kids.find c = some sub) : sub.foot.Nodup := by
  obtain ⟨R', hC, _⟩ := (Ctx.refl P).step hf
  exact hC.nodup hn

theorem Bk.notOwn {w : World} {id b : Nat} {lf : Option Lv} {pre : ByteArray} {ev : Value} {ps : List Pr} {ty : TypeId} {cs : Array Value} (hN : NdOk w id lf pre ev ps) (hb : Bk w b ty cs) (h1 : ty ≠ 85) (h2 : ty ≠ 99) : b ∉ id :: ev.ownBlock.toList := by
  intro hi
  rcases List.mem_cons.1 hi with e | hi
  · exact hb.ne_ hN.blk h1 e
  · exact own_ne_bk hN.row hb (Ne.symm h2) (by simpa using hi)

theorem set_node {w2 : World} {P sub0 sub : An} {c : UInt8} (hf : P.kids.find c = some sub) (hid : sub0.id = sub.id) (hok : An.ok w2 { P with kids := P.kids.set c sub0 }) : NdOk w2 P.id P.lf P.pre P.ev P.kids.prs := by
  have := hok.1
  simp only at this
  rw [At.prs_set hf hid] at this
  exact this

theorem dl_cut {w0 w2 w3 : World} {P sub sub0 : An} {c : UInt8} {l : Lv} {e : Ending} (hT : Turn w0 w2 P { P with kids := P.kids.set c sub0 }) (hf : P.kids.find c = some sub) (hid : sub0.id = sub.id) (ha : Asc P.kids.prs)
    (hl : Bk w2 l.id 94 #[.string l.key, boxv l.val]) (hk : sub.er.kids = .nil)
    (hD : Deleted w2 P.id P.lf P.pre P.ev (P.kids.prs.eraseIdx (ix P.kids.prs c)) e w3) :
    (∃ P1, Cutd w0 w3 P P1 l ⟨P.er.lf, P.er.pre, P.er.kids.drop c sub.er⟩) ∧ w3.heap[sub.id]? = w2.heap[sub.id]? := by
  obtain ⟨_, ev', hN, hm, he⟩ := hD
  have hN2 := set_node hf hid hT.ok
  have hp := At.prs_set (T := P.kids) (c := c) (m := sub0) hf hid
  have hfs := At.find_set sub0 hf
  have hs0 : sub0.ok w2 := (At.focus hfs).2.1 w2 hT.ok.2
  have hcut := turn_cut (w2 := w3) (sub := { P with kids := P.kids.set c sub0 }) (ev' := ev') hT.ok hT.nodup hfs (by rw [hp]; exact ha) (by simp only; rw [hp]; exact hN) hm he
  have hne : sub.id ∉ P.id :: P.ev.ownBlock.toList := by
    intro hi
    rw [← hid] at hi
    have hnd : (ownFoot P.id P.lf P.ev ++ (P.kids.set c sub0).foot).Nodup := hT.nodup
    refine nodup_app hnd sub0.id ?_ (find_foot hfs _ (by simp [An.foot, ownFoot]))
    simp only [ownFoot, List.mem_cons, List.mem_append] at hi ⊢
    rcases hi with hi | hi
    · exact Or.inl hi
    · exact Or.inr (Or.inr hi)
  refine ⟨⟨_, hT.trans hcut, rfl, ?_, hl.of (hm.block _ hl.lt (Bk.notOwn hN2 hl (by decide) (by decide)))⟩, hm.block _ (by rw [← hid]; exact hs0.1.blk.lt) hne⟩
  show Nd.mk _ _ (((P.kids.set c sub0).cut1 c).er) = _
  rw [At.cut1_set, At.er_cut1]
  unfold Ed.drop
  rw [hk]; rfl

theorem dl_set {w0 w3 : World} {P sub m : An} {c : UInt8} {l : Lv} (hP : P.ok w0) (hn : P.foot.Nodup) (hf : P.kids.find c = some sub) (hT : Turn w0 w3 sub m)
    (hl : Bk w3 l.id 94 #[.string l.key, boxv l.val]) (hk : sub.er.kids ≠ .nil) (hm : m.er = Nd.merge ⟨none, sub.er.pre, sub.er.kids⟩) :
    ∃ P1, Cutd w0 w3 P P1 l ⟨P.er.lf, P.er.pre, P.er.kids.drop c sub.er⟩ := by
  refine ⟨_, dl_up hP hn hf hT, rfl, ?_, hl⟩
  show Nd.mk _ _ ((P.kids.set c m).er) = _
  rw [At.er_set, hm]
  unfold Ed.drop
  cases h : sub.er.kids with
  | nil => exact absurd h hk
  | cons => rfl

theorem dl_merge {w0 w2 w3 : World} {sub : An} {cid : Nat} {d : UInt8} {clf : Option Lv} {cpre : ByteArray} {cev : Value} {ck : At} {e : Ending} {l : Lv} (hT : Turn w0 w2 sub { sub with lf := none }) (hk : sub.kids = .cons cid d clf cpre cev ck .nil)
    (hl : Bk w2 l.id 94 #[.string l.key, boxv l.val]) (hM : Merged w2 sub.id clf (sub.pre ++ cpre) cev ck.prs e w3) :
    ∃ m, Turn w0 w3 sub m ∧ m.er = Nd.merge ⟨none, sub.er.pre, sub.er.kids⟩ ∧ Bk w3 l.id 94 #[.string l.key, boxv l.val] := by
  obtain ⟨_, hN, hm⟩ := hM
  obtain ⟨id, lf, pre, ev, kids⟩ := sub
  simp only at hk hT hN hm
  subst hk
  have hmg := turn_merge hT.ok hT.nodup hN hm
  refine ⟨_, hT.trans hmg, ?_, hl.of (hm.block _ hl.lt fun hi => ?_)⟩
  · show Nd.mk _ (pre ++ cpre).data.toList _ = Nd.mk _ _ _
    simp [An.er, At.er]
  · have e : l.id = id := by simpa using hi
    exact hl.ne_ hT.ok.1.blk (by decide) e

/-- The third stage: the parent takes its only child in. -/
theorem dl_tidy {w0 w3 w4 : World} {P P1 : An} {cid : Nat} {d : UInt8} {clf : Option Lv} {cpre : ByteArray} {cev : Value} {ck : At} {e : Ending} {l : Lv} {D : Nd} (hC : Cutd w0 w3 P P1 l D) (hk : P1.kids = .cons cid d clf cpre cev ck .nil) (hlf : P.lf = none)
    (hM : Merged w3 P1.id clf (P1.pre ++ cpre) cev ck.prs e w4) :
    ∃ P2, Turn w0 w4 P P2 ∧ P2.er = D.tidy ∧ Bk w4 l.id 94 #[.string l.key, boxv l.val] := by
  obtain ⟨_, hN, hm⟩ := hM
  obtain ⟨hT, h1, h2, hl⟩ := hC
  obtain ⟨id, lf, pre, ev, kids⟩ := P1
  simp only at hk hN hm h1
  subst hk
  have hmg := turn_merge hT.ok hT.nodup hN hm
  rw [hlf] at h1
  subst h1
  refine ⟨_, hT.trans hmg, ?_, hl.of (hm.block _ hl.lt fun hi => ?_)⟩
  · rw [← h2]
    show Nd.mk _ (pre ++ cpre).data.toList _ = Nd.tidy ⟨none, _, .cons _ _ _ _ .nil⟩
    simp [Nd.tidy, Nd.merge]
  · have e : l.id = id := by simpa using hi
    exact hl.ne_ hT.ok.1.blk (by decide) e
theorem tidy_same {P1 : An} (h : P1.lf ≠ none ∨ P1.kids.prs.length ≠ 1) : P1.er.tidy = P1.er := by
  obtain ⟨id, lf, pre, ev, kids⟩ := P1
  unfold Nd.tidy
  cases lf with
  | some x => rfl
  | none =>
    simp only [ne_eq, not_true_eq_false, false_or] at h
    show Nd.merge ⟨none, _, kids.er⟩ = _
    unfold Nd.merge
    cases kids with
    | nil => rfl
    | cons a b c d e k r =>
      cases r with
      | nil => simp [At.prs] at h
      | cons => rfl
theorem At.one : ∀ {T : At}, T.prs.length = 1 → ∃ cid d clf cpre cev ck, T = .cons cid d clf cpre cev ck .nil
  | .cons cid d clf cpre cev ck .nil, _ => ⟨_, _, _, _, _, _, rfl⟩
  | .cons _ _ _ _ _ _ (.cons ..), h => by simp [prs] at h

theorem run_neq_ptr_same {P : Program} (w : World) {tp te : TypeId} {j : TypeInfo} (a : Addr) (hp : P.underlying tp = some (.pointer te)) (hte : P.info? te = some j) :
    (binOp .neq tp (.pointer (some a)) (.pointer (some a))).run P w = .ok (.bool false) w := by
  have h : ∀ d : Nat, (Op.equalIn (d + 1) tp (.pointer (some a)) (.pointer (some a))).run P w = .ok true w := fun d => by
    simp [Op.equalIn, run_underlying hp, sizeOf, typeInfo, hte, run_sameAddr_same]
  simp only [binOp]
  simp [Op.equal, Op.maxDepth, h 9999]
theorem run_neq_ptr_other {P : Program} (w : World) {tp te : TypeId} {j : TypeInfo} {a b : Addr} {ca cb : Array Value} {ta tb : TypeId} (hp : P.underlying tp = some (.pointer te)) (hte : P.info? te = some j) (hsz : j.size ≠ 0)
    (hne : a ≠ b) (ha : w.heap[a.block]? = some (.cells ca ta (0, 0))) (hb : w.heap[b.block]? = some (.cells cb tb (0, 0))) :
    (binOp .neq tp (.pointer (some a)) (.pointer (some b))).run P w = .ok (.bool true) w := by
  have h : ∀ d : Nat, (Op.equalIn (d + 1) tp (.pointer (some a)) (.pointer (some b))).run P w = .ok false w := fun d => by
    simp [Op.equalIn, run_underlying hp, sizeOf, typeInfo, hte, hsz, run_sameAddr_other w hne ha hb]
  simp only [binOp]
  simp [Op.equal, Op.maxDepth, h 9999]
theorem info_node : (Try.prog.info? 85).map (fun i => (i.zero, i.size, i.bytes)) = some (some (.agg #[.pointer none, .string ⟨#[]⟩, .slice none 0 0]), 3, 48) := by kernel_rfl
theorem neq_same (w : World) (i : Nat) : (binOp .neq 80 (.pointer (some ⟨i, 0, none⟩)) (.pointer (some ⟨i, 0, none⟩))).run Try.prog w = .ok (.bool false) w := by
  obtain ⟨i0, hi, _, _, _⟩ := info_parts info_node
  exact run_neq_ptr_same w _ Try.underlying80 hi
theorem neq_other {w : World} {i j : Nat} {ci cj : Array Value} (hi : Bk w i 85 ci) (hj : Bk w j 85 cj) (hne : i ≠ j) : (binOp .neq 80 (.pointer (some ⟨i, 0, none⟩)) (.pointer (some ⟨j, 0, none⟩))).run Try.prog w = .ok (.bool true) w := by
  obtain ⟨i0, hin, _, hs, _⟩ := info_parts info_node
  exact run_neq_ptr_other w Try.underlying80 hin (by rw [hs]; decide) (by intro e; injection e with e; exact hne e) hi hj

theorem del_root {w wr : World} {t : Nat} {n : An} {s : Bs} {l : Lv} {z : Int} (h : Tr w t n) (hb : Below w.heap.size w wr) (hO : Off wr t n n l z) (hz : z = (drop1 n.er.ents s).length) (hs : s = []) : Left w t n (drop1 n.er.ents s) (dl1 wr t n.id z) := by
  refine Left.del h ((Mut.of_below hb).trans hO.size fun b hb => Or.inl hb) hO.turn ?_ (hz ▸ hO.tree)
  subst hs
  show _ = if ([] : Bs) = [] then _ else _
  rw [if_pos rfl]; rfl
theorem del_fin {w wr w4 : World} {t : Nat} {n P P2 sub : An} {s : Bs} {l : Lv} {z : Int} {R : List Nat} {K : An → An} {E : Nd → Nd} (h : Tr w t n) (hb : Below w.heap.size w wr) (hO : Off wr t n sub l z) (hz : z = (drop1 n.er.ents s).length) (hC : Ctx n P R K E)
    (hT : Turn (dl0 wr t z) w4 P P2) (her : n.er.del s = E P2.er) : Left w t n (drop1 n.er.ents s) w4 := by
  have hn0 := hO.rest n (h.bel hb).ok (h.bel hb).off
  refine Left.del h ((Mut.of_below hb).trans hO.size fun b hb => Or.inl hb) (hC.turn hn0 h.nodup hT) ?_ (hz ▸ hO.tree)
  rw [hC.er, her]

/-- What the third stage reads. -/
structure Third (w3 : World) (t : Nat) (n P P1 : An) (l : Lv) : Prop where
  root : w3.cell? ⟨t, 0, none⟩ = some (.pointer (some ⟨n.id, 0, none⟩))
  lf : w3.cell? ⟨P.id, 0, none⟩ = some (lptr P.lf)
  ev : ∃ A c, w3.cell? ⟨P.id, 2, none⟩ = some (.slice A P1.kids.prs.length c)
  val : w3.cell? ⟨l.id, 1, none⟩ = some (.iface 3 (.int .i64 l.val))
  ne : P.id ≠ n.id → (binOp .neq 80 (.pointer (some ⟨P.id, 0, none⟩)) (.pointer (some ⟨n.id, 0, none⟩))).run Try.prog w3 = .ok (.bool true) w3
theorem Cutd.third {wr w3 : World} {t : Nat} {n P P1 sub : An} {l : Lv} {z : Int} {D : Nd} {R : List Nat} {K : An → An} {E : Nd → Nd} (h : Tr wr t n) (hO : Off wr t n sub l z) (hC : Ctx n P R K E) (hd : Cutd (dl0 wr t z) w3 P P1 l D) : Third w3 t n P P1 l := by
  have hP := hC.ok wr h.ok
  have htP : t ∉ P.foot := fun hi => (An.kind hP t hi).no h.blk (by decide) (by decide) (by decide)
  have hk : Bk w3 t 87 #[.pointer (some ⟨n.id, 0, none⟩), .int .i64 z] := hO.tree.of (hd.turn.turned.block t hO.tree.lt htP)
  have hP1 := hd.turn.ok.1
  have hid := hd.turn.id
  have hB := hP1.blk
  rw [hid, hd.lf] at hB
  obtain ⟨A, c, hev⟩ := row_len hP1.row
  have hn0 := hO.rest n h.ok h.off
  have hT := hC.turn hn0 h.nodup hd.turn
  have hBn := hT.ok.1.blk
  rw [hT.id] at hBn
  exact ⟨by rw [hk.cell]; rfl, by rw [hB.cell]; rfl, ⟨A, c, by rw [hB.cell, ← hev]; rfl⟩, by rw [hd.leaf.cell]; rfl, fun hne => neq_other hB hBn hne⟩
theorem kid_ne {P : An} {cid : Nat} {d : UInt8} {clf : Option Lv} {cpre : ByteArray} {cev : Value} {ck r : At} (hn : P.foot.Nodup) (hk : P.kids = .cons cid d clf cpre cev ck r) : ¬ cid = P.id := by
  intro e
  have hnd : (ownFoot P.id P.lf P.ev ++ P.kids.foot).Nodup := hn
  refine nodup_app hnd P.id (by simp [ownFoot]) ?_
  rw [hk, ← e]
  simp [At.foot, ownFoot]
theorem Ed.dep_drop {M : Nat} {E : Ed} {n : Nat} {c : UInt8} {m : Nd} (h : E.dep M n) (hf : E.find c = some m) : (E.drop c m).dep M n := by
  unfold Ed.drop
  have hm := Ed.dep_find h hf
  split
  · exact Ed.dep_cut1 h
  · exact Ed.dep_set h (Nd.dep_merge (m := ⟨none, m.pre, m.kids⟩) hm)
theorem dl_dep {w0 w3 : World} {P P1 : An} {l : Lv} {D : Nd} (hd : Cutd w0 w3 P P1 l D) {q : Nat} (hq : D.kids.dep 1000 q) (hp : D.pre.length ≤ 1000) {cid : Nat} {d : UInt8} {clf : Option Lv} {cpre : ByteArray} {cev : Value} {ck : At} (hk : P1.kids = .cons cid d clf cpre cev ck .nil) : P1.pre.size + cpre.size ≤ 100000 := by
  have he := hd.er
  obtain ⟨id, lf, pre, ev, kids⟩ := P1
  simp only at hk
  subst hk
  subst he
  have h3 : q + cpre.data.toList.length ≤ 1000 := hq.1
  have h4 : pre.data.toList.length ≤ 1000 := hp
  rw [ba_len] at h3 h4
  simp only
  omega

end Go.Proofs.Ytaidaohkbbdimaa

namespace Go.Proofs.Ytaidaohkbbdimaa
open Go.RowKit

/-- What Delete answers and leaves. -/
def DelPost (w : World) (t : Nat) (n : An) (s : Bs) (e : Ending) (w' : World) : Prop :=
  e = .returned (.tuple #[iv (n.er.get s), .bool (n.er.get s).isSome]) ∧ Left w t n (drop1 n.er.ents s) w'

def parp : Option (An × UInt8) → Value
  | none => .pointer none
  | some (P, _) => .pointer (some ⟨P.id, 0, none⟩)
def parl : Option (An × UInt8) → Int
  | none => 0
  | some (_, c) => c.toNat

theorem drop1_len {n : An} (h : n.er.wf []) {s : Bs} {v : Int} (hg : n.er.get s = some v) : ((drop1 n.er.ents s).length : Int) = (n.er.ents.length : Int) - 1 := by
  have h1 := len_drop1 (Nd.srt h) s
  rw [← Nd.get_ok h, hg] at h1
  simp at h1
  omega

/-- Where a deletion jumps to its end. -/
def DelJ (w : World) (t : Nat) (n : An) (s : ByteArray) (a' : Act) (w' : World) : Prop :=
  ∃ (par : Option (An × UInt8)) (sub : An) (p : Bs) (l : Lv) (u4 u5 u9 u11 u12 u13 u14 u15 u16 u17 u18 u19 u20 u21 u22 u23 u24 u25 u26 u27 u28 u29 u30 u31 u32 u33 u34 u35 u36 u37 u38 u39 u40 u41 u42 : Value), a' = { tmps := #[.pointer (some ⟨t, 0, none⟩), .string s, undef, undef, u4, u5, parp par, .int .u8 (parl par), .pointer (some ⟨sub.id, 0, none⟩), u9, undef, u11, u12, u13, u14, u15, u16, u17, u18, u19, u20, u21, u22, u23, u24, u25, u26, u27, u28, u29, u30, u31, u32, u33, u34, u35, u36, u37, u38, u39, u40, u41, u42, undef, undef, undef, undef, undef, undef, undef, undef, undef, undef, undef, undef, undef, undef, undef, undef, undef, undef, undef, undef, undef, undef, undef, undef, undef, undef, undef, undef, undef, undef, undef, undef, undef, undef, undef, undef, undef, undef, undef, undef, undef, undef, undef, undef, undef, undef, undef, undef, undef, undef, undef, undef, undef, undef, undef, undef, undef, undef, undef, undef, undef, undef, undef, undef, undef, undef, undef, undef, undef, undef, undef, undef], defers := [] } ∧
    Below w.heap.size w w' ∧ Hid (Dn w n sub s.data.toList p []) ∧ Hid (Dlt n par sub s.data.toList []) ∧ Hid (sub.lf = some l)

set_option maxHeartbeats 4000000 in
set_option maxRecDepth 100000 in
theorem delete_any {w : World} {t : Nat} {n : An} (s : ByteArray) (h : Tr w t n) (hlen : n.er.ents.length ≤ 100000) :
    Calls Try.prog 61 #[.pointer (some ⟨t, 0, none⟩), .string s] w (DelPost w t n s.data.toList) := by
  have ht := h.blk.lt
  have c0 : w.cell? ⟨t, 0, none⟩ = some (.pointer (some ⟨n.id, 0, none⟩)) := by rw [h.blk.cell]; rfl
  have HT := Lib.hid h
  clear h
  go_enter Try.func61, Try.ntmps61
  go_wp2_with fail
  refine wp_scope_jumps 0 (DelJ w t n s) (fun _ _ => 0) rfl ?_ ?_
  · go_wp2_with fail
    go_loopg [6, 7, 8, 9] (s.size) (fun g v6 v7 v8 v9 wr => ∃ (par : Option (An × UInt8)) (sub : An) (p : Bs) (S : ByteArray), v6 = parp par ∧ v7 = .int .u8 (parl par) ∧ v8 = .pointer (some ⟨sub.id, 0, none⟩) ∧ v9 = .string S ∧ S.size ≤ g ∧ Below w.heap.size w wr ∧ Hid (Dn w n sub s.data.toList p S.data.toList) ∧ Hid (Dlt n par sub s.data.toList S.data.toList))
    case atStart => exact ⟨none, n, [], s, rfl, rfl, rfl, rfl, Nat.le_refl _, Below.refl _ _, Dn.refl HT.out _, Dlt.start HT.out.nodup _⟩
    case round =>
      obtain ⟨par, sub, p, S, rfl, rfl, rfl, rfl, hg, hb, HD, HI⟩ := hrel
      have hN := (HD.out.bel hb).ok.1
      have k0 : wr.cell? ⟨sub.id, 0, none⟩ = some (lptr sub.lf) := by rw [hN.blk.cell]; rfl
      by_cases h0 : S.size = 0
      · have hSn := ba_nil S h0
        have hI := isLeaf_any (lf := sub.lf) k0
        rw [hSn] at HD HI
        have hget : n.er.get s.data.toList = sub.lf.map (·.val) := by
          rw [HD.out.get]
          show (if ([] : Bs) = [] then _ else _) = _
          rw [if_pos rfl]; exact lf_val sub.lf
        cases hlf : sub.lf with
        | none =>
          rw [hlf] at hI hget
          have HG := Lib.hid hget
          clear hget hlf k0 hN hSn
          go_wp2_with fail
          refine hI.mono ?_
          rintro e w' ⟨rfl, hw⟩
          subst w'
          go_wp2_with fail
          simp only [Exit.jump]
          go_ret2
          exact ⟨by rw [HG.out]; rfl, Left.same HT.out hb HG.out⟩
        | some l =>
          rw [hlf] at hI
          have HLF := Lib.hid hlf
          clear hlf k0 hN hSn hget
          go_wp2_with fail
          refine hI.mono ?_
          rintro e w' ⟨rfl, hw⟩
          subst w'
          go_wp2_with fail
          go_step3
          exact ⟨rfl, par, sub, p, l, _, _, _, _, _, _, _, _, _, _, _, _, _, _, _, _, _, _, _, _, _, _, _, _, _, _, _, _, _, _, _, _, _, _, _, rfl, hb, HD, HI, HLF⟩
      · have h0' : ((S.size : Int) == 0) = false := by rw [beq_eq_false_iff_ne]; omega
        have h0p : 0 < S.size := by omega
        obtain ⟨S', hS⟩ := ba_head S h0p
        rw [hS] at HD HI
        have hE := getEdge_any S[0] hN (At.asc HD.out.wf.2)
        rw [At.prs_find] at hE
        cases hf : sub.kids.find S[0] with
        | none =>
          rw [hf] at hE
          have HR := Lib.hid (HD.out.get_none hf)
          clear hf hN k0 hS
          go_wp2_with fail
          refine hE.mono ?_
          rintro e w' ⟨rfl, hb'⟩
          simp only [Option.map_none, optp]
          go_wp2_with fail
          simp only [Exit.jump]
          go_ret2
          exact ⟨by rw [HR.out]; rfl, Left.same HT.out (hb.trans (hb'.mono hb.size)) HR.out⟩
        | some a =>
          rw [hf] at hE
          obtain ⟨ha, ⟨t0, hpre⟩, _, _, _⟩ := (HD.out.bel hb).kid hf
          have hpl : 0 < a.pre.size := by rw [← ba_len, show a.pre.data.toList = _ from hpre]; simp
          have HPR := Lib.hid hpre
          clear hpre
          cases hp : a.pre.data.toList.isPrefixOf S.data.toList with
          | false =>
            have HR := Lib.hid (HD.out.get_off hf (by rw [← hS]; exact hp))
            clear hf hN k0 hS
            go_wp2_with fail
            refine hE.mono ?_
            rintro e w' ⟨rfl, hb'⟩
            have k1 : w'.cell? ⟨a.id, 1, none⟩ = some (.string a.pre) := by rw [(An.bel ha hb').1.blk.cell]; rfl
            have hP := hasPrefix_any S a.pre w'
            rw [hp] at hP
            simp only [Option.map_some, optp]
            clear hp
            go_wp2_with fail
            refine hP.mono ?_
            rintro e w2 ⟨rfl, hw⟩
            subst w2
            go_wp2_with fail
            simp only [Exit.jump]
            go_ret2
            exact ⟨by rw [HR.out]; rfl, Left.same HT.out (hb.trans (hb'.mono hb.size)) HR.out⟩
          | true =>
            have hle : a.pre.size ≤ S.size := by
              obtain ⟨u, hu⟩ := pfx_iff.1 hp
              have := congrArg List.length hu
              rw [List.length_append, ba_len, ba_len] at this
              omega
            have hpp : a.er.pre.isPrefixOf (S[0] :: S') = true := by rw [← hS]; exact hp
            have HD2 := Lib.hid (HD.out.step hf hpp)
            have HI2 := Lib.hid (HI.out.step HD.out.wf HD.out.dep hf hpp)
            have hdr : (S[0] :: S').drop a.er.pre.length = (S.extract a.pre.size S.size).data.toList := by
              rw [ba_drop, ← hS]; show List.drop a.pre.data.toList.length _ = _; rw [ba_len]
            rw [hdr] at HD2 HI2
            clear hf hN k0 hS hdr hpp
            go_wp2_with fail
            refine hE.mono ?_
            rintro e w' ⟨rfl, hb'⟩
            have k1 : w'.cell? ⟨a.id, 1, none⟩ = some (.string a.pre) := by rw [(An.bel ha hb').1.blk.cell]; rfl
            have hP := hasPrefix_any S a.pre w'
            rw [hp] at hP
            simp only [Option.map_some, optp]
            clear hp
            go_wp2_with fail
            refine hP.mono ?_
            rintro e w2 ⟨rfl, hw⟩
            subst w2
            go_wp2_with fail
            go_roundg (S.size - a.pre.size)
            case measure => omega
            case rel => exact ⟨some (sub, S[0]), a, _, S.extract a.pre.size S.size, rfl, rfl, rfl, rfl, by simp, hb.trans (hb'.mono hb.size), HD2, HI2⟩
  · rintro a' wr ⟨par, sub, p, l, u4, u5, u9, u11, u12, u13, u14, u15, u16, u17, u18, u19, u20, u21, u22, u23, u24, u25, u26, u27, u28, u29, u30, u31, u32, u33, u34, u35, u36, u37, u38, u39, u40, u41, u42, rfl, hb, HD, HI, HLF⟩
    have hTr := HT.out.bel hb
    have hN := (HD.out.bel hb).ok.1
    have hsub := (HD.out.bel hb).ok
    have hlf := HLF.out
    have hget : n.er.get s.data.toList = some l.val := by
      rw [HD.out.get]
      show (if ([] : Bs) = [] then _ else _) = _
      rw [if_pos rfl]
      show (sub.lf.map lrow).map (·.2) = _
      rw [hlf]; rfl
    have k0 : wr.cell? ⟨sub.id, 0, none⟩ = some (.pointer (some ⟨l.id, 0, none⟩)) := by rw [hN.blk.cell, hlf]; rfl
    have f0 : wr.frozen? ⟨sub.id, 0, none⟩ = false := hN.blk.frozen 0
    have k2 : wr.cell? ⟨sub.id, 2, none⟩ = some sub.ev := by rw [hN.blk.cell]; rfl
    have t1 : wr.cell? ⟨t, 1, none⟩ = some (.int .i64 n.er.ents.length) := by rw [hTr.blk.cell]; rfl
    have t0 : wr.cell? ⟨t, 0, none⟩ = some (.pointer (some ⟨n.id, 0, none⟩)) := by rw [hTr.blk.cell]; rfl
    have tf : wr.frozen? ⟨t, 1, none⟩ = false := hTr.blk.frozen 1
    have htid : ¬ t = sub.id := hTr.blk.ne_ hN.blk (by decide)
    have htid2 : ¬ sub.id = t := fun e => htid e.symm
    have hv : Bk wr l.id 94 #[.string l.key, boxv l.val] := by have := hN.leaf; rw [hlf] at this; exact this
    have hl1 : ¬ l.id = t := hv.ne_ hTr.blk (by decide)
    have hl2 : ¬ l.id = sub.id := hv.ne_ hN.blk (by decide)
    have kv : wr.cell? ⟨l.id, 1, none⟩ = some (.iface 3 (.int .i64 l.val)) := by rw [hv.cell]; rfl
    have hw1 : IntKind.i64.wrap ((n.er.ents.length : Int) - 1) = (n.er.ents.length : Int) - 1 := IntWalk.i64_in _ (by omega)
    have HL1 := Lib.hid (drop1_len HT.out.wf hget)
    have HG := Lib.hid hget
    have HTr := Lib.hid hTr
    have HSB := Lib.hid hsub
    cases par with
    | none =>
      obtain ⟨rfl, hS0⟩ : sub = n ∧ [] = s.data.toList := HI.out.2.2
      have HS0 := Lib.hid hS0
      have hOff := Off.of (l := l) ((sub.er.ents.length : Int) - 1) hTr hsub HT.out.nodup hlf
      have HO := Lib.hid hOff
      have hq := neq_same ((wr.setCell ⟨sub.id, 0, none⟩ (.pointer none)).setCell ⟨t, 1, none⟩ (.int .i64 ((sub.er.ents.length : Int) - 1))) sub.id
      clear hlf hN hget hOff hTr hv hS0 hsub
      simp only [parp, parl]
      go_wp2_with fail
      simp only [Exit.jump]
      go_ret2
      exact ⟨by rw [HG.out]; rfl, del_root HT.out hb HO.out HL1.out.symm HS0.out.symm⟩
    | some pc =>
      obtain ⟨P, c⟩ := pc
      have hU : Und n P c sub s.data.toList [] := HI.out.2.2
      obtain ⟨R, K, E, hC, hE, hfP⟩ := hU.done hlf
      have hPok := hC.ok wr hTr.ok
      have hPn := hC.nodup HT.out.nodup
      have hPt : t ∉ P.foot := fun hi => (An.kind hPok t hi).no hTr.blk (by decide) (by decide) (by decide)
      have hO := Off.of (l := l) ((n.er.ents.length : Int) - 1) hTr hsub (sub_nodup hPn hfP) hlf
      have hP0 := hO.rest P hPok hPt
      have hUp := dl_up hP0 hPn hfP hO.turn
      obtain ⟨pp, hPw, hPd⟩ := hU.wf
      have hasc := At.asc hPw.2
      have hsub1 := hO.turn.ok.1
      have hn0 := hO.rest n hTr.ok hTr.off
      have hTn := hC.turn hn0 HT.out.nodup hUp
      have hBn := hTn.ok.1.blk
      rw [hTn.id] at hBn
      have hq := neq_other hsub1.blk hBn hU.ne
      obtain ⟨A0, c0', hev⟩ := row_len hN.row
      rw [hev] at k2
      have HEV0 := Lib.hid hev
      have hDd : (P.er.kids.drop c sub.er).dep 1000 pp.length := Ed.dep_drop hPd (er_find hfP)
      have HC := Lib.hid hC
      have HE := Lib.hid hE
      have HF := Lib.hid hfP
      have HP0 := Lib.hid hP0
      have HPN := Lib.hid hPn
      have HO := Lib.hid hO
      have HUP := Lib.hid hUp
      have HAS := Lib.hid hasc
      have HS1 := Lib.hid hsub1
      have HU := Lib.hid hU
      have HDD := Lib.hid hDd
      have hq' : (binOp .neq 80 (.pointer (some ⟨sub.id, 0, none⟩)) (.pointer (some ⟨n.id, 0, none⟩))).run Try.prog ((wr.setCell ⟨sub.id, 0, none⟩ (.pointer none)).setCell ⟨t, 1, none⟩ (.int .i64 ((n.er.ents.length : Int) - 1))) = .ok (.bool true) ((wr.setCell ⟨sub.id, 0, none⟩ (.pointer none)).setCell ⟨t, 1, none⟩ (.int .i64 ((n.er.ents.length : Int) - 1))) := hq
      clear hlf hN hget hTr hv hsub hU hC hE hfP hPok hPn hPt hO hP0 hUp hPw hPd hasc hsub1 hn0 hTn hBn hev hDd hq
      simp only [parp, parl]
      cases hk : sub.kids with
      | nil =>
        have HEV : Hid (sub.ev = .slice A0 0 c0') := Lib.hid (by rw [HEV0.out, hk]; rfl)
        rw [hk] at k2
        simp only [At.prs, List.length_nil] at k2
        have HK : Hid (sub.er.kids = .nil) := Lib.hid (by show sub.kids.er = _; rw [hk]; rfl)
        clear hk hq'
        go_wp2_with fail
        refine (delEdge_any (w := dl1 wr t sub.id ((n.er.ents.length : Int) - 1)) c (set_node (sub0 := { sub with lf := none }) HF.out rfl HUP.out.ok) HAS.out (by rw [At.prs_find, HF.out]; rfl)).mono ?_
        rintro e w3 hD
        obtain ⟨⟨P1, hCd⟩, hsb⟩ := dl_cut (sub0 := { sub with lf := none }) HUP.out HF.out rfl HAS.out HO.out.leaf HK.out hD
        obtain ⟨rfl, _⟩ := hD
        have hBs : Bk w3 sub.id 85 #[.pointer none, .string sub.pre, sub.ev] := HS1.out.blk.of hsb
        have hn3 := HC.out.turn (HO.out.rest n HTr.out.ok HTr.out.off) HT.out.nodup hCd.turn
        have hBn := hn3.ok.1.blk
        rw [hn3.id] at hBn
        have hqs := neq_other hBs hBn HU.out.ne
        have k34 : w3.cell? ⟨sub.id, 2, none⟩ = some (.slice A0 0 c0') := by rw [hBs.cell, HEV.out]; rfl
        clear hBs hn3 hBn hsb k0 k2 t1 t0 tf kv
        have T3 := hCd.third HTr.out HO.out HC.out
        have k30 := T3.root
        have k31 := T3.lf
        obtain ⟨A1, c1, k32⟩ := T3.ev
        have k33 := T3.val
        have HCd := Lib.hid hCd
        have HT3 := Lib.hid T3
        clear hCd T3
        by_cases hr : P.id = n.id
        · have hqr : (binOp .neq 80 (.pointer (some ⟨P.id, 0, none⟩)) (.pointer (some ⟨n.id, 0, none⟩))).run Try.prog w3 = .ok (.bool false) w3 := by rw [hr]; exact neq_same _ _
          have HR := Lib.hid hr
          clear hr k31 k32
          go_wp2_with fail
          simp only [Exit.jump]
          go_ret2
          exact ⟨by rw [HG.out]; rfl, del_fin HT.out hb HO.out HL1.out.symm HC.out HCd.out.turn (by rw [HE.out, if_pos (by rw [HR.out]; exact beq_self_eq_true _), HCd.out.er])⟩
        · have hqr := HT3.out.ne hr
          have HR : Hid (¬ (P.id == n.id) = true) := Lib.hid (by simpa using hr)
          clear hr
          have hI3 := isLeaf_any (lf := P.lf) k31
          by_cases h1 : P1.kids.prs.length = 1
          · rw [h1] at k32
            cases hPl : P.lf with
            | some x =>
              rw [hPl] at hI3
              have HPl : Hid (P1.lf ≠ none) := Lib.hid (by rw [HCd.out.lf, hPl]; simp)
              clear k31 h1 hPl
              go_wp2_with fail
              refine hI3.mono ?_
              clear hI3
              rintro e w' ⟨rfl, hw⟩
              subst w'
              go_wp2_with fail
              simp only [Exit.jump]
              go_ret2
              exact ⟨by rw [HG.out]; rfl, del_fin HT.out hb HO.out HL1.out.symm HC.out HCd.out.turn (by rw [HE.out, if_neg HR.out, ← HCd.out.er, tidy_same (Or.inl HPl.out)])⟩
            | none =>
              rw [hPl] at hI3
              obtain ⟨cid2, d2, clf2, cpre2, cev2, ck2, hk1⟩ := At.one h1
              have hok1 := HCd.out.turn.ok
              have hnd1 := HCd.out.turn.nodup
              have hid1 := HCd.out.turn.id
              have hM := mergeChild_any (w := w3) (id := P1.id) (cid := cid2) (c := d2) (lf := P1.lf) (clf := clf2) (pre := P1.pre) (cpre := cpre2) (ev := P1.ev) (cev := cev2) (cps := ck2.prs)
                (by have := hok1.1; rw [hk1] at this; exact this) (by have := hok1.2; rw [hk1] at this; exact this.1) (kid_ne hnd1 hk1) (dl_dep HCd.out HDD.out (by
                  rcases HU.out.pre with h | h
                  · exact absurd (beq_iff_eq.2 h) HR.out
                  · exact h) hk1)
              rw [hid1] at hM
              have HK1 := Lib.hid hk1
              have HPl := Lib.hid hPl
              clear k31 h1 hPl hok1 hnd1 hid1 hk1
              go_wp2_with fail
              refine hI3.mono ?_
              clear hI3
              rintro e w' ⟨rfl, hw⟩
              subst w'
              go_wp2_with fail
              refine hM.mono ?_
              clear hM
              rintro e w4 hM
              have hM' := hM
              rw [← HCd.out.turn.id] at hM'
              obtain ⟨P2, hT2, her2, hl2'⟩ := dl_tidy HCd.out HK1.out HPl.out hM'
              obtain ⟨rfl, _⟩ := hM
              have k43 : w4.cell? ⟨l.id, 1, none⟩ = some (.iface 3 (.int .i64 l.val)) := by rw [hl2'.cell]; rfl
              have HT2 := Lib.hid hT2
              have HER2 := Lib.hid her2
              clear hM' hT2 her2 hl2'
              go_wp2_with fail
              simp only [Exit.jump]
              go_ret2
              exact ⟨by rw [HG.out]; rfl, del_fin HT.out hb HO.out HL1.out.symm HC.out HT2.out (by rw [HE.out, if_neg HR.out, HER2.out])⟩
          · have HPl : Hid (P1.kids.prs.length ≠ 1) := Lib.hid h1
            have hb1 : ((P1.kids.prs.length : Int) == 1) = false := by rw [beq_eq_false_iff_ne]; omega
            have HT4 : Hid (P1.er.tidy = P1.er) := Lib.hid (tidy_same (Or.inr h1))
            clear k31 h1 hI3 HPl
            generalize P1.kids.prs.length = L1 at *
            go_wp2_with fail
            simp only [Exit.jump]
            go_ret2
            exact ⟨by rw [HG.out]; rfl, del_fin HT.out hb HO.out HL1.out.symm HC.out HCd.out.turn (by rw [HE.out, if_neg HR.out, ← HCd.out.er, HT4.out])⟩
      | cons cid d clf cpre cev ck r =>
        have hsz : sub.pre.size + cpre.size ≤ 100000 := by
          have h1 := HD.out.dep
          have h2 : sub.er.kids = (At.cons cid d clf cpre cev ck r).er := by show sub.kids.er = _; rw [hk]
          rw [h2] at h1
          have h3 : p.length + cpre.data.toList.length ≤ 1000 := h1.1
          rw [ba_len] at h3
          rcases HI.out.2.1 with h4 | h4
          · exact absurd h4 HU.out.ne
          · have h5 : sub.pre.data.toList.length ≤ 1000 := h4
            rw [ba_len] at h5
            omega
        have hkn : sub.er.kids ≠ .nil := by show sub.kids.er ≠ _; rw [hk]; simp [At.er]
        cases r with
        | nil =>
          rw [hk] at k2
          simp only [At.prs, List.length_nil, List.length_cons, Nat.zero_add] at k2
          have hok0 := HO.out.turn.ok
          have hnd0 := HO.out.turn.nodup
          have hM := mergeChild_any (w := dl1 wr t sub.id ((n.er.ents.length : Int) - 1)) (id := sub.id) (cid := cid) (c := d) (lf := none) (clf := clf) (pre := sub.pre) (cpre := cpre) (ev := sub.ev) (cev := cev) (cps := ck.prs)
            (by have := hok0.1; simp only [hk] at this; exact this) (by have := hok0.2; simp only [hk] at this; exact this.1) (kid_ne (P := { sub with lf := none }) hnd0 hk) hsz
          have HK := Lib.hid hk
          have HKN := Lib.hid hkn
          clear hk hkn hsz hok0 hnd0
          go_wp2_with fail
          refine hM.mono ?_
          clear hM
          rintro e w3 hM
          obtain ⟨m, hTm, herm, hlm⟩ := dl_merge HO.out.turn HK.out HO.out.leaf hM
          obtain ⟨rfl, _⟩ := hM
          obtain ⟨P1, hCd⟩ := dl_set HP0.out HPN.out HF.out hTm hlm HKN.out herm
          clear hTm herm hlm k0 k2 t1 t0 tf kv
          have T3 := hCd.third HTr.out HO.out HC.out
          have k30 := T3.root
          have k31 := T3.lf
          obtain ⟨A1, c1, k32⟩ := T3.ev
          have k33 := T3.val
          have HCd := Lib.hid hCd
          have HT3 := Lib.hid T3
          clear hCd T3
          by_cases hr : P.id = n.id
          · have hqr : (binOp .neq 80 (.pointer (some ⟨P.id, 0, none⟩)) (.pointer (some ⟨n.id, 0, none⟩))).run Try.prog w3 = .ok (.bool false) w3 := by rw [hr]; exact neq_same _ _
            have HR := Lib.hid hr
            clear hr k31 k32
            go_wp2_with fail
            simp only [Exit.jump]
            go_ret2
            exact ⟨by rw [HG.out]; rfl, del_fin HT.out hb HO.out HL1.out.symm HC.out HCd.out.turn (by rw [HE.out, if_pos (by rw [HR.out]; exact beq_self_eq_true _), HCd.out.er])⟩
          · have hqr := HT3.out.ne hr
            have HR : Hid (¬ (P.id == n.id) = true) := Lib.hid (by simpa using hr)
            clear hr
            have hI3 := isLeaf_any (lf := P.lf) k31
            by_cases h1 : P1.kids.prs.length = 1
            · rw [h1] at k32
              cases hPl : P.lf with
              | some x =>
                rw [hPl] at hI3
                have HPl : Hid (P1.lf ≠ none) := Lib.hid (by rw [HCd.out.lf, hPl]; simp)
                clear k31 h1 hPl
                go_wp2_with fail
                refine hI3.mono ?_
                clear hI3
                rintro e w' ⟨rfl, hw⟩
                subst w'
                go_wp2_with fail
                simp only [Exit.jump]
                go_ret2
                exact ⟨by rw [HG.out]; rfl, del_fin HT.out hb HO.out HL1.out.symm HC.out HCd.out.turn (by rw [HE.out, if_neg HR.out, ← HCd.out.er, tidy_same (Or.inl HPl.out)])⟩
              | none =>
                rw [hPl] at hI3
                obtain ⟨cid2, d2, clf2, cpre2, cev2, ck2, hk1⟩ := At.one h1
                have hok1 := HCd.out.turn.ok
                have hnd1 := HCd.out.turn.nodup
                have hid1 := HCd.out.turn.id
                have hM := mergeChild_any (w := w3) (id := P1.id) (cid := cid2) (c := d2) (lf := P1.lf) (clf := clf2) (pre := P1.pre) (cpre := cpre2) (ev := P1.ev) (cev := cev2) (cps := ck2.prs)
                  (by have := hok1.1; rw [hk1] at this; exact this) (by have := hok1.2; rw [hk1] at this; exact this.1) (kid_ne hnd1 hk1) (dl_dep HCd.out HDD.out (by
                    rcases HU.out.pre with h | h
                    · exact absurd (beq_iff_eq.2 h) HR.out
                    · exact h) hk1)
                rw [hid1] at hM
                have HK1 := Lib.hid hk1
                have HPl := Lib.hid hPl
                clear k31 h1 hPl hok1 hnd1 hid1 hk1
                go_wp2_with fail
                refine hI3.mono ?_
                clear hI3
                rintro e w' ⟨rfl, hw⟩
                subst w'
                go_wp2_with fail
                refine hM.mono ?_
                clear hM
                rintro e w4 hM
                have hM' := hM
                rw [← HCd.out.turn.id] at hM'
                obtain ⟨P2, hT2, her2, hl2'⟩ := dl_tidy HCd.out HK1.out HPl.out hM'
                obtain ⟨rfl, _⟩ := hM
                have k43 : w4.cell? ⟨l.id, 1, none⟩ = some (.iface 3 (.int .i64 l.val)) := by rw [hl2'.cell]; rfl
                have HT2 := Lib.hid hT2
                have HER2 := Lib.hid her2
                clear hM' hT2 her2 hl2'
                go_wp2_with fail
                simp only [Exit.jump]
                go_ret2
                exact ⟨by rw [HG.out]; rfl, del_fin HT.out hb HO.out HL1.out.symm HC.out HT2.out (by rw [HE.out, if_neg HR.out, HER2.out])⟩
            · have HPl : Hid (P1.kids.prs.length ≠ 1) := Lib.hid h1
              have hb1 : ((P1.kids.prs.length : Int) == 1) = false := by rw [beq_eq_false_iff_ne]; omega
              have HT4 : Hid (P1.er.tidy = P1.er) := Lib.hid (tidy_same (Or.inr h1))
              clear k31 h1 hI3 HPl
              generalize P1.kids.prs.length = L1 at *
              go_wp2_with fail
              simp only [Exit.jump]
              go_ret2
              exact ⟨by rw [HG.out]; rfl, del_fin HT.out hb HO.out HL1.out.symm HC.out HCd.out.turn (by rw [HE.out, if_neg HR.out, ← HCd.out.er, HT4.out])⟩
        | cons cid2 d2 clf2 cpre2 cev2 ck2 r2 =>
          rw [hk] at k2
          simp only [At.prs, List.length_cons] at k2
          have herm : An.er { sub with lf := none } = Nd.merge ⟨none, sub.er.pre, sub.er.kids⟩ := by
            show Nd.mk _ _ sub.kids.er = Nd.merge ⟨none, sub.pre.data.toList, sub.kids.er⟩
            rw [hk]; rfl
          obtain ⟨P1, hCd0⟩ := dl_set HP0.out HPN.out HF.out HO.out.turn HO.out.leaf hkn herm
          have hb0 : (((r2.prs.length + 1 + 1 : Nat) : Int) == 0) = false := by rw [beq_eq_false_iff_ne]; omega
          have hb1 : (((r2.prs.length + 1 + 1 : Nat) : Int) == 1) = false := by rw [beq_eq_false_iff_ne]; omega
          have HCd0 := Lib.hid hCd0
          clear hk hkn hsz herm hCd0
          generalize r2.prs.length + 1 + 1 = L2 at *
          go_upto_region 21 with fail
          obtain ⟨w3, hw3⟩ : ∃ w3, w3 = dl1 wr t sub.id ((n.er.ents.length : Int) - 1) := ⟨_, rfl⟩
          rw [show ((wr.setCell ⟨sub.id, 0, none⟩ (.pointer none)).setCell ⟨t, 1, none⟩ (.int .i64 ((n.er.ents.length : Int) - 1))) = w3 from hw3.symm]
          have hCd := HCd0.out
          rw [← hw3] at hCd
          clear hw3 k0 k2 t1 t0 tf kv hq' hb0 hb1
          have T3 := hCd.third HTr.out HO.out HC.out
          have k30 := T3.root
          have k31 := T3.lf
          obtain ⟨A1, c1, k32⟩ := T3.ev
          have k33 := T3.val
          have HCd := Lib.hid hCd
          have HT3 := Lib.hid T3
          clear hCd T3
          by_cases hr : P.id = n.id
          · have hqr : (binOp .neq 80 (.pointer (some ⟨P.id, 0, none⟩)) (.pointer (some ⟨n.id, 0, none⟩))).run Try.prog w3 = .ok (.bool false) w3 := by rw [hr]; exact neq_same _ _
            have HR := Lib.hid hr
            clear hr k31 k32
            go_wp2_with fail
            simp only [Exit.jump]
            go_ret2
            exact ⟨by rw [HG.out]; rfl, del_fin HT.out hb HO.out HL1.out.symm HC.out HCd.out.turn (by rw [HE.out, if_pos (by rw [HR.out]; exact beq_self_eq_true _), HCd.out.er])⟩
          · have hqr := HT3.out.ne hr
            have HR : Hid (¬ (P.id == n.id) = true) := Lib.hid (by simpa using hr)
            clear hr
            have hI3 := isLeaf_any (lf := P.lf) k31
            by_cases h1 : P1.kids.prs.length = 1
            · rw [h1] at k32
              cases hPl : P.lf with
              | some x =>
                rw [hPl] at hI3
                have HPl : Hid (P1.lf ≠ none) := Lib.hid (by rw [HCd.out.lf, hPl]; simp)
                clear k31 h1 hPl
                go_wp2_with fail
                refine hI3.mono ?_
                clear hI3
                rintro e w' ⟨rfl, hw⟩
                subst w'
                go_wp2_with fail
                simp only [Exit.jump]
                go_ret2
                exact ⟨by rw [HG.out]; rfl, del_fin HT.out hb HO.out HL1.out.symm HC.out HCd.out.turn (by rw [HE.out, if_neg HR.out, ← HCd.out.er, tidy_same (Or.inl HPl.out)])⟩
              | none =>
                rw [hPl] at hI3
                obtain ⟨cid2, d2, clf2, cpre2, cev2, ck2, hk1⟩ := At.one h1
                have hok1 := HCd.out.turn.ok
                have hnd1 := HCd.out.turn.nodup
                have hid1 := HCd.out.turn.id
                have hM := mergeChild_any (w := w3) (id := P1.id) (cid := cid2) (c := d2) (lf := P1.lf) (clf := clf2) (pre := P1.pre) (cpre := cpre2) (ev := P1.ev) (cev := cev2) (cps := ck2.prs)
                  (by have := hok1.1; rw [hk1] at this; exact this) (by have := hok1.2; rw [hk1] at this; exact this.1) (kid_ne hnd1 hk1) (dl_dep HCd.out HDD.out (by
                    rcases HU.out.pre with h | h
                    · exact absurd (beq_iff_eq.2 h) HR.out
                    · exact h) hk1)
                rw [hid1] at hM
                have HK1 := Lib.hid hk1
                have HPl := Lib.hid hPl
                clear k31 h1 hPl hok1 hnd1 hid1 hk1
                go_wp2_with fail
                refine hI3.mono ?_
                clear hI3
                rintro e w' ⟨rfl, hw⟩
                subst w'
                go_wp2_with fail
                refine hM.mono ?_
                clear hM
                rintro e w4 hM
                have hM' := hM
                rw [← HCd.out.turn.id] at hM'
                obtain ⟨P2, hT2, her2, hl2'⟩ := dl_tidy HCd.out HK1.out HPl.out hM'
                obtain ⟨rfl, _⟩ := hM
                have k43 : w4.cell? ⟨l.id, 1, none⟩ = some (.iface 3 (.int .i64 l.val)) := by rw [hl2'.cell]; rfl
                have HT2 := Lib.hid hT2
                have HER2 := Lib.hid her2
                clear hM' hT2 her2 hl2'
                go_wp2_with fail
                simp only [Exit.jump]
                go_ret2
                exact ⟨by rw [HG.out]; rfl, del_fin HT.out hb HO.out HL1.out.symm HC.out HT2.out (by rw [HE.out, if_neg HR.out, HER2.out])⟩
            · have HPl : Hid (P1.kids.prs.length ≠ 1) := Lib.hid h1
              have hb1 : ((P1.kids.prs.length : Int) == 1) = false := by rw [beq_eq_false_iff_ne]; omega
              have HT4 : Hid (P1.er.tidy = P1.er) := Lib.hid (tidy_same (Or.inr h1))
              clear k31 h1 hI3 HPl
              generalize P1.kids.prs.length = L1 at *
              go_wp2_with fail
              simp only [Exit.jump]
              go_ret2
              exact ⟨by rw [HG.out]; rfl, del_fin HT.out hb HO.out HL1.out.symm HC.out HCd.out.turn (by rw [HE.out, if_neg HR.out, ← HCd.out.er, HT4.out])⟩

end Go.Proofs.Ytaidaohkbbdimaa
