/-
  The walks, part H: a deletion under a text, plain (no program in sight).
  The walks, part H2: deletePrefix, the walk; DeletePrefix.
  The walks, part H3: deletePrefix at any text; DeletePrefix.
-/
import Derived.Test.YtaidaohkbbdimaaWF3
namespace Go.Proofs.Ytaidaohkbbdimaa
open Go.RowKit

def cutAt (top : Bool) (m : Nd) (S : Bs) : Nd := if top then ⟨m.lf, m.pre, (m.kids.cut S).1⟩ else m.cutSub S

/-- A deletion under a text stands at the child c of P. -/
structure CuP (n P : An) (c : UInt8) (sub : An) (s S : Bs) : Prop where
  ne : sub.id ≠ n.id
  pre : P.id = n.id ∨ P.er.pre.length ≤ 1000
  wf : ∃ p, P.er.wf p ∧ P.er.kids.dep 1000 p.length
  at_ : ∃ R K E S', Ctx n P R K E ∧ n.er.cut s = E (cutAt (P.id == n.id) P.er (c :: S')) ∧ P.kids.find c = some sub ∧
    ((S = [] ∧ (c :: S').isPrefixOf sub.er.pre = true) ∨ (S ≠ [] ∧ (c :: S').isPrefixOf sub.er.pre = false ∧ sub.er.pre.isPrefixOf (c :: S') = true ∧ S = (c :: S').drop sub.er.pre.length))

/-- Where a deletion under a text stands. -/
structure Cu (n : An) (par : Option (An × UInt8)) (sub : An) (s S : Bs) : Prop where
  und : n.er.und s = sub.er.und S
  sok : ∀ w, n.ok w → sub.ok w
  nk : n.id ∉ sub.kids.foot
  wf : ∃ p, sub.er.wf p ∧ sub.er.kids.dep 1000 p.length
  pre : sub.id = n.id ∨ sub.er.pre.length ≤ 1000
  at_ : match par with
    | none => sub = n ∧ S = s
    | some (P, c) => CuP n P c sub s S

theorem Cu.start {w : World} {t : Nat} {n : An} (h : Tr w t n) (s : Bs) : Cu n none n s s :=
  ⟨rfl, fun _ h => h, (Dlt.start h.nodup s).1, ⟨[], h.wf, h.dep⟩, Or.inl rfl, rfl, rfl⟩

theorem Cu.next {n sub a : An} {par : Option (An × UInt8)} {s S' : Bs} {c : UInt8} (h : Cu n par sub s (c :: S')) (hf : sub.kids.find c = some a) :
    (∃ R K E, Ctx n sub R K E ∧ n.er.cut s = E (cutAt (sub.id == n.id) sub.er (c :: S'))) ∧ a.id ≠ n.id ∧ n.id ∉ a.kids.foot ∧ (∀ w, n.ok w → a.ok w) ∧ (∃ p, a.er.wf p ∧ a.er.kids.dep 1000 p.length) ∧ a.er.pre.length ≤ 1000 := by
  obtain ⟨p, hw, hd⟩ := h.wf
  have hak : ∀ b ∈ a.foot, b ≠ n.id := fun b hb e => h.nk (e ▸ find_foot hf b hb)
  have hd2 := Ed.dep_find hd (er_find hf)
  have hk2 := Ed.find_ok hw.2 (er_find hf)
  refine ⟨?_, hak a.id (by simp [An.foot, ownFoot]), fun hi => hak n.id (by simp [An.foot, hi]) rfl, fun w hw => (At.focus hf).2.1 w (h.sok w hw).2, ⟨p ++ a.er.pre, hk2.2, by rw [List.length_append]; exact hd2.2⟩, by have := hd2.1; omega⟩
  have h4 := h.at_
  cases par with
  | none =>
    obtain ⟨rfl, rfl⟩ := h4
    refine ⟨_, _, _, Ctx.refl sub, ?_⟩
    rw [beq_self_eq_true]
    show (if (c :: S') = [] then _ else _) = _
    rw [if_neg (by simp)]; rfl
  | some pc =>
    obtain ⟨P, c0⟩ := pc
    obtain ⟨hne, _, _, R, K, E, S0, hC, hE, hfP, hS⟩ := h4
    rcases hS with ⟨hS, _⟩ | ⟨_, hq, hp, hS⟩
    · cases hS
    · obtain ⟨R', hC', _⟩ := hC.step hfP
      refine ⟨_, _, _, hC', ?_⟩
      rw [hE]
      congr 1
      have h1 : P.er.kids.cut (c0 :: S0) = (P.er.kids.set c0 (sub.er.cutSub (c :: S')), false) := by
        rw [Ed.cut_some (er_find hfP), if_neg (by rw [hq]; simp), if_pos hp, ← hS]
      have h2 : (sub.id == n.id) = false := by rw [beq_eq_false_iff_ne]; exact hne
      rw [h2]
      unfold cutAt
      cases hb : P.id == n.id
      · rw [if_neg (by simp), if_neg (by simp)]
        unfold Nd.cutSub
        rw [show P.er.kids.cut (c0 :: S0) = _ from h1]
        rfl
      · rw [if_pos rfl, if_neg (by simp), h1]

theorem Cu.top {n sub a : An} {par : Option (An × UInt8)} {s S' : Bs} {c : UInt8} (h : Cu n par sub s (c :: S')) (hf : sub.kids.find c = some a) (hq : (c :: S').isPrefixOf a.er.pre = true) : Cu n (some (sub, c)) a s [] := by
  obtain ⟨⟨R, K, E, hC, hE⟩, h1, h2, h3, h4, h5⟩ := h.next hf
  refine ⟨?_, h3, h2, h4, Or.inr h5, h1, h.pre, h.wf, R, K, E, S', hC, hE, hf, Or.inl ⟨rfl, hq⟩⟩
  rw [h.und, und_at]
  cases hp : a.er.pre.isPrefixOf (c :: S') with
  | false => exact und_top hf hp hq
  | true =>
    rw [und_step hf hp]
    obtain ⟨u, hu⟩ := pfx_iff.1 hp
    obtain ⟨v, hv⟩ := pfx_iff.1 hq
    have h6 := congrArg List.length hu
    have h7 := congrArg List.length hv
    rw [List.length_append] at h6 h7
    rw [List.drop_of_length_le (by omega), und_at]
theorem Cu.down {n sub a : An} {par : Option (An × UInt8)} {s S' : Bs} {c : UInt8} (h : Cu n par sub s (c :: S')) (hf : sub.kids.find c = some a) (hq : (c :: S').isPrefixOf a.er.pre = false) (hp : a.er.pre.isPrefixOf (c :: S') = true) : Cu n (some (sub, c)) a s ((c :: S').drop a.er.pre.length) := by
  obtain ⟨⟨R, K, E, hC, hE⟩, h1, h2, h3, h4, h5⟩ := h.next hf
  refine ⟨by rw [h.und, und_step hf hp], h3, h2, h4, Or.inr h5, h1, h.pre, h.wf, R, K, E, S', hC, hE, hf, Or.inr ⟨fun e => ?_, hq, hp, rfl⟩⟩
  obtain ⟨u, hu⟩ := pfx_iff.1 hp
  rw [hu, List.drop_left] at e
  rw [hu, e, List.append_nil] at hq
  have : a.er.pre.isPrefixOf a.er.pre = true := pfx_iff.2 ⟨[], by simp⟩
  rw [this] at hq; cases hq

/-- What a deletion under a text leaves. -/
def Cutl (w : World) (t : Nat) (n : An) (rows : List Rw) (w' : World) : Prop := ∃ n', Tr w' t n' ∧ n'.er.ents = rows ∧ Mut w w' (t :: n.foot) ∧ ∀ b ∈ n'.foot, b ∈ n.foot ∨ w.heap.size ≤ b

theorem und_empty {n : An} {s : Bs} (h : n.er.wf []) (hu : n.er.und s = []) : nund n.er.ents s = n.er.ents := by
  rw [Nd.und_ok h] at hu
  refine nund_off fun x hx => ?_
  cases e : s.isPrefixOf x.1 with
  | false => rfl
  | true =>
    have : x ∈ und n.er.ents s := mem_und.2 ⟨hx, e⟩
    rw [hu] at this; cases this
theorem Cutl.same {w w' : World} {t : Nat} {n : An} {s : Bs} (h : Tr w t n) (hb : Below w.heap.size w w') (hu : n.er.und s = []) : Cutl w t n (nund n.er.ents s) w' :=
  ⟨n, h.bel hb, (und_empty h.wf hu).symm, Mut.of_below hb, fun _ hb => Or.inl hb⟩
theorem Cutl.of {w wr w4 w5 : World} {t : Nat} {n n' : An} {s : Bs} (h : Tr w t n) (hb : Below w.heap.size w wr) (hT : Turn wr w4 n n') (her : n'.er = n.er.cut s) (hm : Mut w4 w5 [t])
    (hbk : Bk w5 t 87 #[.pointer (some ⟨n.id, 0, none⟩), .int .i64 (nund n.er.ents s).length]) : Cutl w t n (nund n.er.ents s) w5 := by
  have htn := h.off
  have hi := Nd.cut_ok (s := s) h.wf
  have htK : t ∉ n'.foot := fun hi => by
    rcases hT.sub t hi with h1 | h1
    · exact htn h1
    · have := h.blk.lt; have := hb.size; omega
  refine ⟨n', ⟨?_, An.keep hT.ok hm fun b hb hi => ?_, hT.nodup, ?_, ?_⟩, ?_, ?_, fun b hb2 => (hT.sub b hb2).imp (fun h => h) fun h => Nat.le_trans hb.size h⟩
  · rw [hT.id, her, hi.2]; exact hbk
  · have e : b = t := by simpa using hi
    subst e; exact htK hb
  · rw [her]; exact hi.1
  · rw [her]; exact Nd.dep_cut h.dep
  · rw [her]; exact hi.2
  · exact ((Mut.of_below (F := t :: n.foot) hb).trans (hT.turned.mono (G := t :: n.foot) (by simp +contextual)) (fun b hb => Or.inl hb)).trans (hm.mono (G := t :: n.foot) (by simp)) (fun b hb => Or.inl hb)

/-- A node loses its entry and its edges. -/
theorem turn_empty {w w2 : World} {sub : An} (hm : Mut w w2 [sub.id]) (hk : Bk w2 sub.id 85 #[.pointer none, .string sub.pre, .slice none 0 0]) :
    Turn w w2 sub { sub with lf := none, ev := .slice none 0 0, kids := .nil } := by
  have hf : An.foot { sub with lf := none, ev := .slice none 0 0, kids := .nil } = [sub.id] := by simp [An.foot, ownFoot, lfoot, At.foot, Value.ownBlock]
  refine ⟨⟨⟨hk, trivial, ⟨rfl, Or.inl ⟨rfl, rfl⟩⟩⟩, trivial⟩, rfl, hm.mono fun b hbb => ?_, by rw [hf]; simp, fun b hbb => ?_⟩
  · have e : b = sub.id := by simpa using hbb
    subst e; simp [An.foot, ownFoot]
  · rw [hf] at hbb
    have e : b = sub.id := by simpa using hbb
    subst e; exact Or.inl (by simp [An.foot, ownFoot])

/-- The world behind the emptying. -/
structure Emp (w2 w3 : World) (sub : An) (b : Nat) (k : Nat) : Prop where
  turned : Mut w2 w3 [sub.id]
  node : Bk w3 sub.id 85 #[.pointer none, .string sub.pre, .slice none 0 0]
  cnt : Bk w3 b 3 #[.int .i64 k]

theorem cut_root {n : An} {s : Bs} (hs : s = []) : An.er { n with lf := none, ev := .slice none 0 0, kids := .nil } = n.er.cut s := by
  subst hs
  show _ = if ([] : Bs) = [] then _ else _
  rw [if_pos rfl]; rfl
theorem CuP.done {n P sub : An} {c : UInt8} {s : Bs} (h : CuP n P c sub s []) :
    ∃ R K E, Ctx n P R K E ∧ P.kids.find c = some sub ∧ n.er.cut s = E (if (P.id == n.id) = true then ⟨P.er.lf, P.er.pre, P.er.kids.set c ⟨none, sub.er.pre, .nil⟩⟩ else Nd.tidy ⟨P.er.lf, P.er.pre, P.er.kids.set c ⟨none, sub.er.pre, .nil⟩⟩) := by
  obtain ⟨_, _, _, R, K, E, S', hC, hE, hf, hS⟩ := h
  rcases hS with ⟨_, hq⟩ | ⟨hS, _⟩
  · refine ⟨R, K, E, hC, hf, ?_⟩
    rw [hE]
    congr 1
    have h1 : P.er.kids.cut (c :: S') = (P.er.kids.set c ⟨none, sub.er.pre, .nil⟩, true) := by rw [Ed.cut_some (er_find hf), if_pos hq]
    unfold cutAt
    cases P.id == n.id
    · rw [if_neg (by simp), if_neg (by simp)]
      unfold Nd.cutSub
      rw [h1]; rfl
    · rw [if_pos rfl, if_pos rfl, h1]
  · exact absurd rfl hS

/-- The parent's third stage, ahead of the telling of the size. -/
structure Trd (w0 w3 : World) (t : Nat) (n P P1 : An) (z : Int) (b k : Nat) (D : Nd) : Prop where
  turn : Turn w0 w3 P P1
  lf : P1.lf = P.lf
  er : P1.er = D
  cnt : Bk w3 b 3 #[.int .i64 k]
  tree : Bk w3 t 87 #[.pointer (some ⟨n.id, 0, none⟩), .int .i64 z]
  node : Bk w3 P.id 85 #[lptr P.lf, .string P1.pre, P1.ev]
  ev : ∃ A c, P1.ev = .slice A P1.kids.prs.length c
  ne : P.id ≠ n.id → (binOp .neq 80 (.pointer (some ⟨P.id, 0, none⟩)) (.pointer (some ⟨n.id, 0, none⟩))).run Try.prog w3 = .ok (.bool true) w3

theorem Trd.of {w0 w3 : World} {t : Nat} {n P sub : An} {c : UInt8} {b k : Nat} {R : List Nat} {K : An → An} {E : Nd → Nd} (h : Tr w0 t n) (hC : Ctx n P R K E) (hf : P.kids.find c = some sub) (he : Emp w0 w3 sub b k) :
    Trd w0 w3 t n P { P with kids := P.kids.set c { sub with lf := none, ev := .slice none 0 0, kids := .nil } } n.er.ents.length b k ⟨P.er.lf, P.er.pre, P.er.kids.set c ⟨none, sub.er.pre, .nil⟩⟩ := by
  have hP := hC.ok w0 h.ok
  have hPn := hC.nodup h.nodup
  have htP : t ∉ P.foot := fun hi => (An.kind hP t hi).no h.blk (by decide) (by decide) (by decide)
  have hT := dl_up hP hPn hf (turn_empty he.turned he.node)
  have hTn := hC.turn h.ok h.nodup hT
  have hBn := hTn.ok.1.blk
  rw [hTn.id] at hBn
  refine ⟨hT, rfl, ?_, he.cnt, h.blk.of (hT.turned.block t h.blk.lt htP), hT.ok.1.blk, row_len hT.ok.1.row, fun hne => neq_other hT.ok.1.blk hBn hne⟩
  show Nd.mk _ _ ((P.kids.set c _).er) = _
  rw [At.er_set]; rfl

theorem trd_tidy {w0 w3 w4 : World} {t : Nat} {n P P1 : An} {z : Int} {b k : Nat} {D : Nd} {cid : Nat} {d : UInt8} {clf : Option Lv} {cpre : ByteArray} {cev : Value} {ck : At} {e : Ending} (h : Trd w0 w3 t n P P1 z b k D) (hk : P1.kids = .cons cid d clf cpre cev ck .nil) (hlf : P.lf = none)
    (hM : Merged w3 P1.id clf (P1.pre ++ cpre) cev ck.prs e w4) :
    ∃ P2, Turn w0 w4 P P2 ∧ P2.er = D.tidy ∧ Bk w4 b 3 #[.int .i64 k] ∧ Bk w4 t 87 #[.pointer (some ⟨n.id, 0, none⟩), .int .i64 z] := by
  obtain ⟨_, hN, hm⟩ := hM
  obtain ⟨hT, h1, h2, hc, ht, hB, _, _⟩ := h
  have hid := hT.id
  obtain ⟨id, lf, pre, ev, kids⟩ := P1
  simp only at hk hN hm h1 hB hid
  subst hk
  subst hid
  have hmg := turn_merge hT.ok hT.nodup hN hm
  rw [hlf] at h1
  subst h1
  refine ⟨_, hT.trans hmg, ?_, hc.of (hm.block _ hc.lt fun hi => ?_), ht.of (hm.block _ ht.lt fun hi => ?_)⟩
  · rw [← h2]
    show Nd.mk _ (pre ++ cpre).data.toList _ = Nd.tidy ⟨none, _, .cons _ _ _ _ .nil⟩
    simp [Nd.tidy, Nd.merge]
  · exact hc.ne_ hB (by decide) (by simpa using hi)
  · exact ht.ne_ hB (by decide) (by simpa using hi)
theorem trd_dep {P1 : An} {D : Nd} (he : P1.er = D) {q : Nat} (hq : D.kids.dep 1000 q) (hp : D.pre.length ≤ 1000) {cid : Nat} {d : UInt8} {clf : Option Lv} {cpre : ByteArray} {cev : Value} {ck : At} (hk : P1.kids = .cons cid d clf cpre cev ck .nil) : P1.pre.size + cpre.size ≤ 100000 := by
  obtain ⟨id, lf, pre, ev, kids⟩ := P1
  simp only at hk
  subst hk
  subst he
  have h3 : q + cpre.data.toList.length ≤ 1000 := hq.1
  have h4 : pre.data.toList.length ≤ 1000 := hp
  rw [ba_len] at h3 h4
  simp only
  omega
theorem cut_fin {w w2 w4 : World} {z : Int} {t k : Nat} {n n' : An} {s : Bs} (h : Tr w t n) (hb : Below w.heap.size w w2) (hT : Turn w2 w4 n n') (her : n'.er = n.er.cut s) (hk : Bk w4 t 87 #[.pointer (some ⟨n.id, 0, none⟩), .int .i64 n.er.ents.length])
    (hu : k = (und n.er.ents s).length) (hz : z = (n.er.ents.length : Int) - (k : Int)) : Cutl w t n (nund n.er.ents s) (w4.setCell ⟨t, 1, none⟩ (.int .i64 z)).drew := by
  refine Cutl.of h hb hT her ((Mut.refl w4 [t]).setCell (Or.inl (by simp)) _).drew ?_
  subst hz
  have e : ((n.er.ents.length : Int) - (k : Int)) = ((nund n.er.ents s).length : Int) := by
    have := len_parts n.er.ents s
    omega
  rw [e]
  exact (hk.set_ 1 _).drew

end Go.Proofs.Ytaidaohkbbdimaa

namespace Go.Proofs.Ytaidaohkbbdimaa
open Go.RowKit

/-- What the counting function leaves. -/
def Cnt (wr : World) (b : Nat) (w : World) (acc : List Rw) : Prop := Below wr.heap.size wr w ∧ wr.heap.size ≤ b ∧ Bk w b 3 #[.int .i64 acc.length]

set_option maxHeartbeats 1000000 in
theorem count_any {wr w : World} {b : Nat} {acc : List Rw} (l : Lv) (hl : acc.length < 100000) (h : Cnt wr b w acc) :
    Calls Try.prog 81 #[.string l.key, .iface 3 (.int .i64 l.val), .pointer (some ⟨b, 0, none⟩)] w (Vis (Cnt wr b) false (acc ++ [lrow l])) := by
  have c0 : w.cell? ⟨b, 0, none⟩ = some (.int .i64 acc.length) := by rw [h.2.2.cell]; rfl
  have f0 : w.frozen? ⟨b, 0, none⟩ = false := h.2.2.frozen 0
  have hw1 : IntKind.i64.wrap ((acc.length : Int) + 1) = (acc.length : Int) + 1 := IntWalk.i64_in _ (by omega)
  have H := Lib.hid h
  have HL : Hid (((acc ++ [lrow l]).length : Int) = (acc.length : Int) + 1) := Lib.hid (by simp)
  clear h
  go_enter Try.func81, Try.ntmps81
  go_wp2_with fail
  go_ret
  refine ⟨rfl, ?_, H.out.2.1, ?_⟩
  · exact H.out.1.setCell (p := ⟨b, 0, none⟩) H.out.2.1 _
  · rw [HL.out]; exact H.out.2.2.set_ 0 _

theorem cnt_visitor (wr : World) (b : Nat) : Visitor 100000 81 #[.pointer (some ⟨b, 0, none⟩)] (fun _ => false) (Cnt wr b) :=
  ⟨enters Try.func81 (by kernel_rfl) rfl, fun w w' acc h hb => ⟨h.1.trans (hb.mono h.1.size), h.2.1, h.2.2.of (hb.block b h.2.2.lt)⟩, fun w acc l hl h => count_any l hl h⟩

/-- What deletePrefix answers and leaves. -/
def CutPost (w : World) (t : Nat) (n : An) (s : Bs) (e : Ending) (w' : World) : Prop :=
  e = .returned (.int .i64 (und n.er.ents s).length) ∧ Cutl w t n (nund n.er.ents s) w'

structure Emp0 (w2 w3 : World) (sub : An) (b : Nat) (ev : Value) (k : Nat) : Prop where
  turned : Mut w2 w3 [sub.id]
  node : Bk w3 sub.id 85 #[.pointer none, .string sub.pre, ev]
  cnt : Bk w3 b 3 #[.int .i64 k]
theorem Emp0.done {w2 w3 : World} {sub : An} {b k : Nat} {ev : Value} (h : Emp0 w2 w3 sub b ev k) (hb : ¬ sub.id = b) : Emp w2 (w3.setCell ⟨sub.id, 2, none⟩ (.slice none 0 0)) sub b k :=
  ⟨h.turned.setCell (Or.inl (by simp)) _, h.node.set_ 2 _, h.cnt.far (p := ⟨sub.id, 2, none⟩) (Ne.symm hb) _⟩

set_option maxHeartbeats 4000000 in
set_option maxRecDepth 100000 in
theorem cut_end {w wr : World} {t : Nat} {n sub : An} {par : Option (An × UInt8)} {s : Bs} (h : Tr w t n) (hlen : n.er.ents.length < 100000) (hb : Below w.heap.size w wr) (hI : Cu n par sub s []) :
    Calls Try.prog 73 #[.pointer (some ⟨t, 0, none⟩), parp par, .pointer (some ⟨sub.id, 0, none⟩), .string ⟨#[]⟩] wr (CutPost w t n s) := by
  have hTr := h.bel hb
  have HT := Lib.hid h
  have HTr := Lib.hid hTr
  have HI := Lib.hid hI
  have hu : und n.er.ents s = sub.er.ents := by rw [← Nd.und_ok h.wf, hI.und, und_at]
  have hul : sub.er.ents.length ≤ n.er.ents.length := by rw [← hu]; exact List.length_filter_le _ _
  have HU := Lib.hid hu
  have HUL := Lib.hid hul
  have hent := enters Try.func81 (by kernel_rfl) rfl
  have hR := rwalk_any (cnt_visitor wr wr.heap.size) (sub.kids.num + 1) sub (wr.alloc (.cells #[.int .i64 0] 3)) [] (by omega) (by simp; omega) (fun w acc h => hI.sok w (An.bel hTr.ok h.1)) ⟨(Below.refl _ wr).alloc (Nat.le_refl _) _, Nat.le_refl _, Bk.new wr _ _⟩
  rw [vis_never, List.nil_append] at hR
  have htw : t < wr.heap.size := hTr.blk.lt
  clear h hTr hI hu hul
  go_enter Try.func73, Try.ntmps73
  go_wp2_with fail
  refine hR.mono ?_
  clear hR
  rintro e w2 ⟨rfl, hCn⟩
  have HCn := Lib.hid hCn
  have HTr2 := Lib.hid (HTr.out.bel hCn.1)
  have hs2 := HI.out.sok w2 HTr2.out.ok
  have k0 : w2.cell? ⟨sub.id, 0, none⟩ = some (lptr sub.lf) := by rw [hs2.1.blk.cell]; rfl
  have f0 : w2.frozen? ⟨sub.id, 0, none⟩ = false := hs2.1.blk.frozen 0
  have f2 : w2.frozen? ⟨sub.id, 2, none⟩ = false := hs2.1.blk.frozen 2
  have hb2 := hs2.1.blk
  obtain ⟨A0, c0', hev⟩ := row_len hs2.1.row
  rw [hev] at hb2
  have k2 : w2.cell? ⟨sub.id, 2, none⟩ = some (.slice A0 sub.kids.prs.length c0') := by rw [hb2.cell]; rfl
  have hI4 := isLeaf_any (lf := sub.lf) k0
  have hbs : ¬ sub.id = wr.heap.size := hs2.1.blk.ne_ hCn.2.2 (by decide)
  have HB2 := Lib.hid hb2
  clear hCn hs2 hev hb2
  go_wp2_with fail
  refine hI4.mono ?_
  clear hI4
  rintro e w' ⟨rfl, hw⟩
  subst w'
  go_upto_if 19 with fail
  go_cut [] (fun wx => Hid (Emp0 w2 wx sub wr.heap.size (.slice A0 sub.kids.prs.length c0') sub.er.ents.length))
  case first =>
    cases hlf : sub.lf with
    | none =>
      have HE0 : Hid (Emp0 w2 w2 sub wr.heap.size (.slice A0 sub.kids.prs.length c0') sub.er.ents.length) := Lib.hid ⟨Mut.refl _ _, by have := HB2.out; rw [hlf] at this; exact this, HCn.out.2.2⟩
      clear hlf
      go_wp2_with fail
      go_meet
      case rel => exact HE0
    | some l =>
      rw [hlf] at k0
      have k0' : w2.cell? ⟨sub.id, 0, none⟩ = some (.pointer (some ⟨l.id, 0, none⟩)) := k0
      clear hlf k0
      go_wp2_with fail
      go_meet
      case rel => exact ⟨(Mut.refl _ _).setCell (Or.inl (by simp)) _, HB2.out.set_ 0 _, HCn.out.2.2.far (p := ⟨sub.id, 0, none⟩) (Ne.symm hbs) _⟩
  case rest =>
    have HE0 := hcut
    clear hcut k0 k2 f0 f2
    have f2 : wc.frozen? ⟨sub.id, 2, none⟩ = false := HE0.out.node.frozen 2
    have k2 : wc.cell? ⟨sub.id, 2, none⟩ = some (.slice A0 sub.kids.prs.length c0') := by rw [HE0.out.node.cell]; rfl
    have HEM : Hid (Emp w2 (wc.setCell ⟨sub.id, 2, none⟩ (.slice none 0 0)) sub wr.heap.size sub.er.ents.length) := Lib.hid (HE0.out.done hbs)
    go_upto_region 7 with fail
    generalize wc.setCell ⟨sub.id, 2, none⟩ (.slice none 0 0) = w3 at *
    clear f2 k2 HE0
    have hw1 : IntKind.i64.wrap ((n.er.ents.length : Int) - (sub.er.ents.length : Int)) = (n.er.ents.length : Int) - (sub.er.ents.length : Int) := IntWalk.i64_in _ (by have := HUL.out; omega)
    have HB02 := Lib.hid (hb.trans (HCn.out.1.mono hb.size))
    cases par with
    | none =>
      obtain ⟨rfl, hS0⟩ : sub = n ∧ [] = s := HI.out.at_
      have HS0 := Lib.hid hS0
      have HTT : Hid (Turn w2 w3 sub { sub with lf := none, ev := .slice none 0 0, kids := .nil }) := Lib.hid (turn_empty HEM.out.turned HEM.out.node)
      have hbt : Bk w3 t 87 #[.pointer (some ⟨sub.id, 0, none⟩), .int .i64 sub.er.ents.length] := HTr2.out.blk.of (HTT.out.turned.block t HTr2.out.blk.lt HTr2.out.off)
      have HBT := Lib.hid hbt
      clear hbt hS0
      simp only [parp]
      go_wp2_with fail
      have t1 : w3.cell? ⟨t, 1, none⟩ = some (.int .i64 sub.er.ents.length) := by rw [HBT.out.cell]; rfl
      have tf : w3.frozen? ⟨t, 1, none⟩ = false := HBT.out.frozen 1
      have kb : w3.cell? ⟨wr.heap.size, 0, none⟩ = some (.int .i64 sub.er.ents.length) := by rw [HEM.out.cnt.cell]; rfl
      go_still_tail 8, (by kernel_rfl)
      change wpList _ _ _ _ _ w3.drew
      go_wp2_with fail
      go_ret
      exact ⟨by rw [HU.out]; rfl, cut_fin HT.out HB02.out HTT.out (cut_root HS0.out.symm) HBT.out (by rw [HU.out]) (by omega)⟩
    | some pc =>
      obtain ⟨P, c⟩ := pc
      have hcp : CuP n P c sub s [] := HI.out.at_
      obtain ⟨R, K, E, hC, hF, hE⟩ := hcp.done
      have HC := Lib.hid hC
      have HF := Lib.hid hF
      have HE := Lib.hid hE
      have HUP := Lib.hid hcp.pre
      obtain ⟨pp, hPw, hPd⟩ := hcp.wf
      have HDD : Hid ((P.er.kids.set c ⟨none, sub.er.pre, .nil⟩).dep 1000 pp.length) := Lib.hid (Ed.dep_set hPd ⟨(Ed.dep_find hPd (er_find hF)).1, trivial⟩)
      clear hC hF hE hcp hPw hPd
      have hTd := Trd.of HTr2.out HC.out HF.out HEM.out
      have k30 : w3.cell? ⟨t, 0, none⟩ = some (.pointer (some ⟨n.id, 0, none⟩)) := by rw [hTd.tree.cell]; rfl
      have k31 : w3.cell? ⟨P.id, 0, none⟩ = some (lptr P.lf) := by rw [hTd.node.cell]; rfl
      obtain ⟨A1, c1, hev1⟩ := hTd.ev
      have hbn := hTd.node
      rw [hev1] at hbn
      have k32 : w3.cell? ⟨P.id, 2, none⟩ = some (.slice A1 (P.kids.set c { sub with lf := none, ev := .slice none 0 0, kids := .nil }).prs.length c1) := by rw [hbn.cell]; rfl
      obtain ⟨P1, hP1⟩ : ∃ P1 : An, P1 = { P with kids := P.kids.set c { sub with lf := none, ev := .slice none 0 0, kids := .nil } } := ⟨_, rfl⟩
      have hL1 : (P.kids.set c { sub with lf := none, ev := .slice none 0 0, kids := .nil }).prs.length = P1.kids.prs.length := by rw [hP1]
      rw [hL1] at k32
      rw [← hP1] at hTd
      have HTd := Lib.hid hTd
      clear hTd hev1 hbn hL1 hP1
      simp only [parp]
      by_cases hr : P.id = n.id
      · have hqr : (binOp .neq 80 (.pointer (some ⟨P.id, 0, none⟩)) (.pointer (some ⟨n.id, 0, none⟩))).run Try.prog w3 = .ok (.bool false) w3 := by rw [hr]; exact neq_same _ _
        have HR := Lib.hid hr
        clear hr k31 k32
        go_wp2_with fail
        clear k30 hqr
        have t1 : w3.cell? ⟨t, 1, none⟩ = some (.int .i64 n.er.ents.length) := by rw [HTd.out.tree.cell]; rfl
        have tf : w3.frozen? ⟨t, 1, none⟩ = false := HTd.out.tree.frozen 1
        have kb : w3.cell? ⟨wr.heap.size, 0, none⟩ = some (.int .i64 sub.er.ents.length) := by rw [HTd.out.cnt.cell]; rfl
        go_still_tail 8, (by kernel_rfl)
        change wpList _ _ _ _ _ w3.drew
        go_wp2_with fail
        go_ret
        exact ⟨by rw [HU.out]; rfl, cut_fin HT.out HB02.out (HC.out.turn HTr2.out.ok HT.out.nodup HTd.out.turn) (by rw [HC.out.er, HE.out, if_pos (by rw [HR.out]; exact beq_self_eq_true _), HTd.out.er]) HTd.out.tree (by rw [HU.out]) (by omega)⟩
      · have hqr := HTd.out.ne hr
        have HR : Hid (¬ (P.id == n.id) = true) := Lib.hid (by simpa using hr)
        clear hr
        have hI3 := isLeaf_any (lf := P.lf) k31
        by_cases h1 : P1.kids.prs.length = 1
        · rw [h1] at k32
          cases hPl : P.lf with
          | some x =>
            rw [hPl] at hI3
            have HPl : Hid (P1.lf ≠ none) := Lib.hid (by rw [HTd.out.lf, hPl]; simp)
            clear k31 h1 hPl
            go_wp2_with fail
            refine hI3.mono ?_
            clear hI3
            rintro e w' ⟨rfl, hw⟩
            subst w'
            go_wp2_with fail
            clear k30 hqr k32
            have t1 : w3.cell? ⟨t, 1, none⟩ = some (.int .i64 n.er.ents.length) := by rw [HTd.out.tree.cell]; rfl
            have tf : w3.frozen? ⟨t, 1, none⟩ = false := HTd.out.tree.frozen 1
            have kb : w3.cell? ⟨wr.heap.size, 0, none⟩ = some (.int .i64 sub.er.ents.length) := by rw [HTd.out.cnt.cell]; rfl
            go_still_tail 8, (by kernel_rfl)
            change wpList _ _ _ _ _ w3.drew
            go_wp2_with fail
            go_ret
            exact ⟨by rw [HU.out]; rfl, cut_fin HT.out HB02.out (HC.out.turn HTr2.out.ok HT.out.nodup HTd.out.turn) (by rw [HC.out.er, HE.out, if_neg HR.out, ← HTd.out.er, tidy_same (Or.inl HPl.out)]) HTd.out.tree (by rw [HU.out]) (by omega)⟩
          | none =>
            rw [hPl] at hI3
            obtain ⟨cid2, d2, clf2, cpre2, cev2, ck2, hk1⟩ := At.one h1
            have hok1 := HTd.out.turn.ok
            have hnd1 := HTd.out.turn.nodup
            have hid1 := HTd.out.turn.id
            have hM := mergeChild_any (w := w3) (id := P1.id) (cid := cid2) (c := d2) (lf := P1.lf) (clf := clf2) (pre := P1.pre) (cpre := cpre2) (ev := P1.ev) (cev := cev2) (cps := ck2.prs)
              (by have := hok1.1; rw [hk1] at this; exact this) (by have := hok1.2; rw [hk1] at this; exact this.1) (kid_ne hnd1 hk1) (trd_dep HTd.out.er HDD.out (by
                rcases HUP.out with h | h
                · exact absurd (beq_iff_eq.2 h) HR.out
                · exact h) hk1)
            rw [hid1] at hM
            have HK1 := Lib.hid hk1
            have HPl := Lib.hid hPl
            clear k31 h1 hPl hok1 hnd1 hid1 hk1
            go_wp2_with fail
            refine hI3.mono ?_
            clear hI3
            rintro e w' ⟨rfl, hw⟩
            subst w'
            go_wp2_with fail
            refine hM.mono ?_
            clear hM
            rintro e w4 hM
            have hM' := hM
            rw [← HTd.out.turn.id] at hM'
            obtain ⟨P2, hT2, her2, hc2, ht2⟩ := trd_tidy HTd.out HK1.out HPl.out hM'
            obtain ⟨rfl, _⟩ := hM
            have HT2 := Lib.hid hT2
            have HER2 := Lib.hid her2
            have HC2 := Lib.hid hc2
            have HTT2 := Lib.hid ht2
            clear hM' hT2 her2 hc2 ht2 k30 hqr k32
            go_wp2_with fail
            have t1 : w4.cell? ⟨t, 1, none⟩ = some (.int .i64 n.er.ents.length) := by rw [HTT2.out.cell]; rfl
            have tf : w4.frozen? ⟨t, 1, none⟩ = false := HTT2.out.frozen 1
            have kb : w4.cell? ⟨wr.heap.size, 0, none⟩ = some (.int .i64 sub.er.ents.length) := by rw [HC2.out.cell]; rfl
            go_still_tail 8, (by kernel_rfl)
            change wpList _ _ _ _ _ w4.drew
            go_wp2_with fail
            go_ret
            exact ⟨by rw [HU.out]; rfl, cut_fin HT.out HB02.out (HC.out.turn HTr2.out.ok HT.out.nodup HT2.out) (by rw [HC.out.er, HE.out, if_neg HR.out, HER2.out]) HTT2.out (by rw [HU.out]) (by omega)⟩
        · have HT4 : Hid (P1.er.tidy = P1.er) := Lib.hid (tidy_same (Or.inr h1))
          have hb1 : ((P1.kids.prs.length : Int) == 1) = false := by rw [beq_eq_false_iff_ne]; omega
          clear k31 h1 hI3
          generalize P1.kids.prs.length = L1 at *
          go_wp2_with fail
          clear k30 hqr k32 hb1
          have t1 : w3.cell? ⟨t, 1, none⟩ = some (.int .i64 n.er.ents.length) := by rw [HTd.out.tree.cell]; rfl
          have tf : w3.frozen? ⟨t, 1, none⟩ = false := HTd.out.tree.frozen 1
          have kb : w3.cell? ⟨wr.heap.size, 0, none⟩ = some (.int .i64 sub.er.ents.length) := by rw [HTd.out.cnt.cell]; rfl
          go_still_tail 8, (by kernel_rfl)
          change wpList _ _ _ _ _ w3.drew
          go_wp2_with fail
          go_ret
          exact ⟨by rw [HU.out]; rfl, cut_fin HT.out HB02.out (HC.out.turn HTr2.out.ok HT.out.nodup HTd.out.turn) (by rw [HC.out.er, HE.out, if_neg HR.out, ← HTd.out.er, HT4.out]) HTd.out.tree (by rw [HU.out]) (by omega)⟩

end Go.Proofs.Ytaidaohkbbdimaa

namespace Go.Proofs.Ytaidaohkbbdimaa
open Go.RowKit

theorem ba_empty (S : ByteArray) (h : S.size = 0) : S = ⟨#[]⟩ := by
  obtain ⟨d⟩ := S
  have : d.size = 0 := h
  rw [Array.eq_empty_of_size_eq_zero this]

set_option maxHeartbeats 4000000 in
set_option maxRecDepth 100000 in
theorem dpre_any {w : World} {t : Nat} {n : An} {s : Bs} (h : Tr w t n) (hlen : n.er.ents.length < 100000) (k : Nat) :
    ∀ (S : ByteArray) (par : Option (An × UInt8)) (sub : An) (wr : World), S.size < k → Below w.heap.size w wr → Cu n par sub s S.data.toList →
    Calls Try.prog 73 #[.pointer (some ⟨t, 0, none⟩), parp par, .pointer (some ⟨sub.id, 0, none⟩), .string S] wr (CutPost w t n s) := by
  induction k with
  | zero => intro S par sub wr hk; omega
  | succ k ih =>
    intro S par sub wr hk hb hI
    by_cases h0 : S.size = 0
    · have e := ba_empty S h0
      subst e
      exact cut_end h hlen hb hI
    · have HIH := Lib.hid ih
      have HT := Lib.hid h
      have hsub := hI.sok wr (h.bel hb).ok
      have hN := hsub.1
      clear ih h
      have h0' : ((S.size : Int) == 0) = false := by rw [beq_eq_false_iff_ne]; omega
      have h0p : 0 < S.size := by omega
      obtain ⟨S', hS⟩ := ba_head S h0p
      obtain ⟨p, hw, hd⟩ := hI.wf
      rw [hS] at hI
      have hE := getEdge_any S[0] hN (At.asc hw.2)
      rw [At.prs_find] at hE
      have HI := Lib.hid hI
      cases hf : sub.kids.find S[0] with
      | none =>
        rw [hf] at hE
        have HR : Hid (n.er.und s = []) := Lib.hid (by rw [hI.und]; exact und_none hf)
        clear hf hN hS hI hw hd hsub
        go_enter Try.func73, Try.ntmps73
        go_wp2_with fail
        refine hE.mono ?_
        rintro e w' ⟨rfl, hb'⟩
        simp only [Option.map_none, optp]
        go_wp2_with fail
        go_ret
        exact ⟨by rw [← Nd.und_ok HT.out.wf, HR.out]; rfl, Cutl.same HT.out (hb.trans (hb'.mono hb.size)) HR.out⟩
      | some a =>
        rw [hf] at hE
        have ha : a.ok wr := (At.focus hf).2.1 wr hsub.2
        cases hp : S.data.toList.isPrefixOf a.pre.data.toList with
        | true =>
          have hle : S.size ≤ a.pre.size := by
            obtain ⟨u, hu⟩ := pfx_iff.1 hp
            have := congrArg List.length hu
            rw [List.length_append, ba_len, ba_len] at this
            omega
          have HC := Lib.hid (hI.top hf (by rw [← hS]; exact hp))
          clear hf hN hS hI hw hd hsub
          by_cases hlt : S.size < a.pre.size
          · have hIH := fun w' hb => HIH.out ByteArray.empty (some (sub, S[0])) a w' (by simp; omega) hb HC.out
            simp only [parp] at hIH
            have HH := Lib.hid hIH
            clear hIH
            go_enter Try.func73, Try.ntmps73
            go_wp2_with fail
            refine hE.mono ?_
            rintro e w' ⟨rfl, hb'⟩
            have k1 : w'.cell? ⟨a.id, 1, none⟩ = some (.string a.pre) := by rw [(An.bel ha hb').1.blk.cell]; rfl
            have hP := hasPrefix_any a.pre S w'
            rw [hp] at hP
            simp only [Option.map_some, optp]
            clear hp
            go_wp2_with fail
            refine hP.mono ?_
            rintro e w2 ⟨rfl, hw⟩
            subst w2
            go_wp2_with fail
            refine (HH.out w' (hb.trans (hb'.mono hb.size))).mono ?_
            rintro e w2 hR
            obtain ⟨rfl, hR⟩ := hR
            have HR := Lib.hid hR
            clear hR
            go_wp2_with fail
            go_ret
            exact ⟨rfl, HR.out⟩
          · have hIH := fun w' hb => HIH.out (S.extract a.pre.size S.size) (some (sub, S[0])) a w' (by simp; omega) hb (by rw [ba_drop, List.drop_of_length_le (by rw [ba_len]; omega)]; exact HC.out)
            simp only [parp] at hIH
            have HH := Lib.hid hIH
            have hle2 : a.pre.size ≤ S.size := by omega
            clear hIH
            go_enter Try.func73, Try.ntmps73
            go_wp2_with fail
            refine hE.mono ?_
            rintro e w' ⟨rfl, hb'⟩
            have k1 : w'.cell? ⟨a.id, 1, none⟩ = some (.string a.pre) := by rw [(An.bel ha hb').1.blk.cell]; rfl
            have hP := hasPrefix_any a.pre S w'
            rw [hp] at hP
            simp only [Option.map_some, optp]
            clear hp
            go_wp2_with fail
            refine hP.mono ?_
            rintro e w2 ⟨rfl, hw⟩
            subst w2
            go_wp2_with fail
            refine (HH.out w' (hb.trans (hb'.mono hb.size))).mono ?_
            rintro e w2 hR
            obtain ⟨rfl, hR⟩ := hR
            have HR := Lib.hid hR
            clear hR
            go_wp2_with fail
            go_ret
            exact ⟨rfl, HR.out⟩
        | false =>
          cases hq : a.pre.data.toList.isPrefixOf S.data.toList with
          | false =>
            have HR : Hid (n.er.und s = []) := Lib.hid (by rw [hI.und]; exact und_off hf (by rw [← hS]; exact hq) (by rw [← hS]; exact hp))
            clear hf hN hS hI hw hd hsub
            go_enter Try.func73, Try.ntmps73
            go_wp2_with fail
            refine hE.mono ?_
            rintro e w' ⟨rfl, hb'⟩
            have k1 : w'.cell? ⟨a.id, 1, none⟩ = some (.string a.pre) := by rw [(An.bel ha hb').1.blk.cell]; rfl
            have hP := hasPrefix_any a.pre S w'
            have hQ := hasPrefix_any S a.pre w'
            rw [hp] at hP
            rw [hq] at hQ
            simp only [Option.map_some, optp]
            clear hp hq
            go_wp2_with fail
            refine hP.mono ?_
            rintro e w2 ⟨rfl, hw⟩
            subst w2
            go_wp2_with fail
            refine hQ.mono ?_
            rintro e w2 ⟨rfl, hw⟩
            subst w2
            go_wp2_with fail
            go_ret
            exact ⟨by rw [← Nd.und_ok HT.out.wf, HR.out]; rfl, Cutl.same HT.out (hb.trans (hb'.mono hb.size)) HR.out⟩
          | true =>
            have hle : a.pre.size ≤ S.size := by
              obtain ⟨u, hu⟩ := pfx_iff.1 hq
              have := congrArg List.length hu
              rw [List.length_append, ba_len, ba_len] at this
              omega
            have hpos : 0 < a.pre.size := by
              obtain ⟨⟨t0, ht0⟩, _⟩ := Ed.find_ok hw.2 (er_find hf)
              rw [← ba_len, show a.pre.data.toList = _ from ht0]; simp
            have hC := hI.down hf (by rw [← hS]; exact hp) (by rw [← hS]; exact hq)
            have hdr : (S[0] :: S').drop a.er.pre.length = (S.extract a.pre.size S.size).data.toList := by
              rw [ba_drop, ← hS]; show List.drop a.pre.data.toList.length _ = _; rw [ba_len]
            rw [hdr] at hC
            have hlt : ¬ S.size < a.pre.size := by omega
            have hIH := fun w' hb => HIH.out (S.extract a.pre.size S.size) (some (sub, S[0])) a w' (by simp; omega) hb hC
            simp only [parp] at hIH
            have HH := Lib.hid hIH
            clear hIH hC hdr hf hN hS hI hw hd hsub
            go_enter Try.func73, Try.ntmps73
            go_wp2_with fail
            refine hE.mono ?_
            rintro e w' ⟨rfl, hb'⟩
            have k1 : w'.cell? ⟨a.id, 1, none⟩ = some (.string a.pre) := by rw [(An.bel ha hb').1.blk.cell]; rfl
            have hP := hasPrefix_any a.pre S w'
            have hQ := hasPrefix_any S a.pre w'
            rw [hp] at hP
            rw [hq] at hQ
            simp only [Option.map_some, optp]
            clear hp hq
            go_wp2_with fail
            refine hP.mono ?_
            rintro e w2 ⟨rfl, hw⟩
            subst w2
            go_wp2_with fail
            refine hQ.mono ?_
            rintro e w2 ⟨rfl, hw⟩
            subst w2
            go_wp2_with fail
            refine (HH.out w' (hb.trans (hb'.mono hb.size))).mono ?_
            rintro e w2 hR
            obtain ⟨rfl, hR⟩ := hR
            have HR := Lib.hid hR
            clear hR
            go_wp2_with fail
            go_ret
            exact ⟨rfl, HR.out⟩

set_option maxHeartbeats 1000000 in
theorem deletePrefix_any {w : World} {t : Nat} {n : An} (s : ByteArray) (h : Tr w t n) (hlen : n.er.ents.length < 100000) :
    Calls Try.prog 62 #[.pointer (some ⟨t, 0, none⟩), .string s] w (CutPost w t n s.data.toList) := by
  have c0 : w.cell? ⟨t, 0, none⟩ = some (.pointer (some ⟨n.id, 0, none⟩)) := by rw [h.blk.cell]; rfl
  have hR := dpre_any h hlen (s.size + 1) s none n w (by omega) (Below.refl _ _) (Cu.start h s.data.toList)
  simp only [parp] at hR
  clear h
  go_enter Try.func62, Try.ntmps62
  go_wp2_with fail
  refine hR.mono ?_
  clear hR
  rintro e w2 hR
  obtain ⟨rfl, hR⟩ := hR
  have HR := Lib.hid hR
  clear hR
  go_wp2_with fail
  go_ret
  exact ⟨rfl, HR.out⟩

end Go.Proofs.Ytaidaohkbbdimaa
