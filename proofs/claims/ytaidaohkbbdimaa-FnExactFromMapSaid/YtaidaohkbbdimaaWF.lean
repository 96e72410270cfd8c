/-
  The walks, part F: what a deletion does to a tree in memory (no program in sight).
  The walks, part F2: where a deletion stands, and what it leaves (no program in sight).
-/
import Derived.Test.YtaidaohkbbdimaaWE
namespace Go.Proofs.Ytaidaohkbbdimaa
open Go.RowKit

theorem Turn.trans {w w1 w2 : World} {n n1 n2 : An} (h : Turn w w1 n n1) (k : Turn w1 w2 n1 n2) : Turn w w2 n n2 :=
  ⟨k.ok, k.id.trans h.id, h.turned.trans k.turned fun b hb => h.sub b hb, k.nodup, fun b hb => by
    rcases k.sub b hb with h1 | h1
    · exact h.sub b h1
    · exact Or.inr (Nat.le_trans h.turned.size h1)⟩

theorem At.prs_cut1 : ∀ {T : At} {c : UInt8} {n : An}, T.find c = some n → Asc T.prs → (T.cut1 c).prs = T.prs.eraseIdx (ix T.prs c)
  | .nil, _, _, h, _ => by cases h
  | .cons id d lf pre ev k r, c, n, h, ha => by
    unfold find at h
    unfold cut1
    have ha' := List.pairwise_cons.1 ha
    by_cases hc : d = c
    · rw [if_pos hc]
      have e : ix (prs (.cons id d lf pre ev k r)) c = 0 := by
        have : ¬ d < c := by rw [hc]; exact UInt8.lt_irrefl _
        simp [ix, prs, this]
      rw [e]
      simp [prs]
    · rw [if_neg hc] at h ⊢
      have h1 : prFind r.prs c = some n.id := by rw [At.prs_find, h]; rfl
      obtain ⟨h2, h3⟩ := prFind_some ha'.2 h1
      have hlt : d < c := by
        have := ha'.1 _ (List.getElem_mem h2)
        rw [h3] at this; exact this
      have e : ix (prs (.cons id d lf pre ev k r)) c = ix r.prs c + 1 := by simp [ix, prs, hlt]
      rw [e]
      simp only [prs, List.eraseIdx_cons_succ, At.prs_cut1 h ha'.2]
theorem At.ok_cut1 {w : World} : ∀ {T : At} {c : UInt8}, T.ok w → (T.cut1 c).ok w
  | .nil, _, h => h
  | .cons id d lf pre ev k r, c, h => by
    unfold cut1
    split
    · exact h.2.2
    · exact ⟨h.1, h.2.1, At.ok_cut1 h.2.2⟩
theorem At.foot_cut1 : ∀ {T : At} {c : UInt8} {n : An}, T.find c = some n → T.foot.Perm (n.foot ++ (T.cut1 c).foot)
  | .nil, _, _, h => by cases h
  | .cons id d lf pre ev k r, c, n, h => by
    unfold find at h
    unfold cut1
    by_cases hc : d = c
    · rw [if_pos hc] at h ⊢
      injection h with h
      subst h
      simp only [foot, An.foot]
      rw [List.append_assoc]
    · rw [if_neg hc] at h ⊢
      simp only [foot]
      have h1 := At.foot_cut1 h
      have h2 : (ownFoot id lf ev ++ (k.foot ++ r.foot)).Perm ((ownFoot id lf ev ++ k.foot) ++ (n.foot ++ (r.cut1 c).foot)) := by
        rw [← List.append_assoc]; exact List.Perm.append_left _ h1
      refine h2.trans ?_
      rw [← List.append_assoc, ← List.append_assoc (ownFoot id lf ev), ← List.append_assoc n.foot]
      exact List.Perm.append_right _ List.perm_append_comm

/-- A node loses its leaf. -/
theorem turn_nolf {w w2 : World} {sub : An} (h : sub.ok w) (hn : sub.foot.Nodup) (hm : Mut w w2 [sub.id]) (hk : Bk w2 sub.id 85 #[.pointer none, .string sub.pre, sub.ev]) :
    Turn w w2 sub { sub with lf := none } := by
  obtain ⟨id, lf, pre, ev, kids⟩ := sub
  simp only at hm hk
  have hN := h.1
  have hsl : (An.foot ⟨id, none, pre, ev, kids⟩).Sublist (An.foot ⟨id, lf, pre, ev, kids⟩) := by
    simp only [An.foot, ownFoot]
    refine List.Sublist.append (List.Sublist.cons_cons _ (List.Sublist.append ?_ (List.Sublist.refl _))) (List.Sublist.refl _)
    exact List.nil_sublist _
  refine ⟨⟨⟨hk, trivial, own_of hN.row fun b hbb => hm.block b (own_lt hN.row hbb) ?_⟩, At.keep h.2 hm fun b hbb => ?_⟩, rfl, hm.mono fun b hbb => ?_, hn.sublist hsl, fun b hbb => Or.inl (hsl.subset hbb)⟩
  · have := own_ne_bk hN.row hN.blk (by decide)
    intro hi
    have e : b = id := by simpa using hi
    subst e
    exact this (by simpa using hbb)
  · have := nodup_app hn id (by simp [ownFoot])
    intro hi
    have e : b = id := by simpa using hi
    subst e
    exact this hbb
  · have e : b = id := by simpa using hbb
    subst e
    simp [An.foot, ownFoot]

/-- A node loses a child. -/
theorem turn_cut {w w2 : World} {sub a : An} {c : UInt8} {ev' : Value} (h : sub.ok w) (hn : sub.foot.Nodup) (hf : sub.kids.find c = some a) (ha : Asc sub.kids.prs)
    (hN : NdOk w2 sub.id sub.lf sub.pre ev' (sub.kids.prs.eraseIdx (ix sub.kids.prs c))) (hm : Mut w w2 (sub.id :: sub.ev.ownBlock.toList)) (he : ∀ b, ev'.ownBlock = some b → sub.ev.ownBlock = some b) :
    Turn w w2 sub { sub with ev := ev', kids := sub.kids.cut1 c } := by
  obtain ⟨id, lf, pre, ev, kids⟩ := sub
  simp only at hf ha hN hm he
  have hfk := At.foot_cut1 hf
  have hown : ∀ b ∈ id :: ev.ownBlock.toList, b ∈ ownFoot id lf ev := fun b hb => by
    simp only [ownFoot, List.mem_append, List.mem_cons] at hb ⊢
    rcases hb with hb | hb
    · exact Or.inl hb
    · exact Or.inr (Or.inr hb)
  have hsub : ∀ b ∈ An.foot ⟨id, lf, pre, ev', kids.cut1 c⟩, b ∈ An.foot ⟨id, lf, pre, ev, kids⟩ := fun b hb => by
    simp only [An.foot, ownFoot, List.mem_append, List.mem_cons] at hb ⊢
    rcases hb with (hb | hb | hb) | hb
    · exact Or.inl (Or.inl hb)
    · exact Or.inl (Or.inr (Or.inl hb))
    · exact Or.inl (Or.inr (Or.inr (by have := he b (by simpa using hb); simpa using this)))
    · exact Or.inr (hfk.mem_iff.2 (by simp [hb]))
  have hn' : (ownFoot id lf ev ++ kids.foot).Nodup := hn
  refine ⟨⟨?_, At.keep (At.ok_cut1 h.2) hm fun b hbb hi => ?_⟩, rfl, hm.mono fun b hbb => ?_, ?_, fun b hbb => Or.inl (hsub b hbb)⟩
  · show NdOk w2 id lf pre ev' (kids.cut1 c).prs
    rw [At.prs_cut1 hf ha]; exact hN
  · exact nodup_app hn' b (hown b hi) (hfk.mem_iff.2 (by simp [hbb]))
  · simp only [An.foot, List.mem_append]; exact Or.inl (hown b hbb)
  · show (ownFoot id lf ev' ++ (kids.cut1 c).foot).Nodup
    rw [List.nodup_append] at hn' ⊢
    obtain ⟨g1, g2, g3⟩ := hn'
    refine ⟨?_, (List.nodup_append.1 (hfk.nodup_iff.1 g2)).2.1, fun x hx y hy e => ?_⟩
    · rw [show ownFoot id lf ev' = (id :: lfoot lf) ++ ev'.ownBlock.toList by simp [ownFoot]]
      rw [show ownFoot id lf ev = (id :: lfoot lf) ++ ev.ownBlock.toList by simp [ownFoot]] at g1
      rw [List.nodup_append] at g1 ⊢
      refine ⟨g1.1, by cases ev'.ownBlock <;> simp, fun x hx y hy e => ?_⟩
      exact g1.2.2 x hx y (by have := he y (by simpa using hy); simpa using this) e
    · refine g3 x ?_ y (hfk.mem_iff.2 (by simp [hy])) e
      simp only [ownFoot, List.mem_append, List.mem_cons] at hx ⊢
      rcases hx with hx | hx | hx
      · exact Or.inl hx
      · exact Or.inr (Or.inl hx)
      · exact Or.inr (Or.inr (by have := he x (by simpa using hx); simpa using this))

/-- A node takes its only child into itself. -/
theorem turn_merge {w w2 : World} {id cid : Nat} {c : UInt8} {lf clf : Option Lv} {pre cpre : ByteArray} {ev cev : Value} {ck : At} (h : An.ok w ⟨id, lf, pre, ev, .cons cid c clf cpre cev ck .nil⟩)
    (hn : (An.foot ⟨id, lf, pre, ev, .cons cid c clf cpre cev ck .nil⟩).Nodup) (hN : NdOk w2 id clf (pre ++ cpre) cev ck.prs) (hm : Mut w w2 [id]) :
    Turn w w2 ⟨id, lf, pre, ev, .cons cid c clf cpre cev ck .nil⟩ ⟨id, clf, pre ++ cpre, cev, ck⟩ := by
  have hsl : (An.foot ⟨id, clf, pre ++ cpre, cev, ck⟩).Sublist (An.foot ⟨id, lf, pre, ev, .cons cid c clf cpre cev ck .nil⟩) := by
    simp only [An.foot, ownFoot, At.foot, List.append_nil, List.cons_append, List.append_assoc]
    refine List.Sublist.cons_cons _ ?_
    refine (List.Sublist.refl _).trans ?_
    refine List.Sublist.trans ?_ (List.sublist_append_right (lfoot lf) _)
    refine List.Sublist.trans ?_ (List.sublist_append_right ev.ownBlock.toList _)
    exact List.sublist_cons_self _ _
  have hck : ck.ok w := h.2.2.1
  refine ⟨⟨hN, At.keep hck hm fun b hbb hi => ?_⟩, rfl, hm.mono fun b hbb => ?_, hn.sublist hsl, fun b hbb => Or.inl (hsl.subset hbb)⟩
  · have e : b = id := by simpa using hi
    subst e
    have : (b :: (lfoot clf ++ (cev.ownBlock.toList ++ ck.foot))).Nodup := by
      have := hn.sublist hsl
      simpa [An.foot, ownFoot] using this
    exact (List.nodup_cons.1 this).1 (by simp [hbb])
  · have e : b = id := by simpa using hbb
    subst e
    simp [An.foot, ownFoot]

end Go.Proofs.Ytaidaohkbbdimaa

namespace Go.Proofs.Ytaidaohkbbdimaa
open Go.RowKit

/-- What an operation leaves: a tree with these entries, as tight as before. -/
def Left (w : World) (t : Nat) (n : An) (rows : List Rw) (w' : World) : Prop := ∃ n', Tr w' t n' ∧ n'.er.ents = rows ∧ (n.er.kids.cmp → n'.er.kids.cmp) ∧ Mut w w' (t :: n.foot) ∧ ∀ b ∈ n'.foot, b ∈ n.foot ∨ w.heap.size ≤ b

def delAt (top : Bool) (m : Nd) (S : Bs) : Nd := if top then ⟨m.lf, m.pre, (m.kids.del S).1⟩ else m.delSub S

/-- A deletion stands at the child c of P. -/
structure Und (n P : An) (c : UInt8) (sub : An) (s S : Bs) : Prop where
  wf : ∃ p, P.er.wf p ∧ P.er.kids.dep 1000 p.length
  ne : sub.id ≠ n.id
  pre : P.id = n.id ∨ P.er.pre.length ≤ 1000
  at_ : ∃ S' R K E, Ctx n P R K E ∧ n.er.del s = E (delAt (P.id == n.id) P.er (c :: S')) ∧ P.kids.find c = some sub ∧ sub.er.pre.isPrefixOf (c :: S') = true ∧ S = (c :: S').drop sub.er.pre.length

/-- Where a deletion stands. -/
def Dlt (n : An) (par : Option (An × UInt8)) (sub : An) (s S : Bs) : Prop :=
  n.id ∉ sub.kids.foot ∧ (sub.id = n.id ∨ sub.er.pre.length ≤ 1000) ∧ match par with
  | none => sub = n ∧ S = s
  | some (P, c) => Und n P c sub s S

theorem Dlt.start {n : An} (hn : n.foot.Nodup) (s : Bs) : Dlt n none n s s := ⟨by
  have : (n.id :: (lfoot n.lf ++ n.ev.ownBlock.toList ++ n.kids.foot)).Nodup := by simpa [An.foot, ownFoot] using hn
  intro hi
  exact (List.nodup_cons.1 this).1 (by simp [hi]), Or.inl rfl, rfl, rfl⟩

theorem find_foot : ∀ {T : At} {c : UInt8} {a : An}, T.find c = some a → ∀ b ∈ a.foot, b ∈ T.foot := fun h b hb => (At.foot_cut1 h).mem_iff.2 (by simp [hb])

theorem Dlt.step {n sub a : An} {par : Option (An × UInt8)} {s p S' : Bs} {c : UInt8} (h : Dlt n par sub s (c :: S')) (hw : sub.er.wf p) (hd : sub.er.kids.dep 1000 p.length) (hf : sub.kids.find c = some a) (hp : a.er.pre.isPrefixOf (c :: S') = true) :
    Dlt n (some (sub, c)) a s ((c :: S').drop a.er.pre.length) := by
  obtain ⟨hnk, hpr, h⟩ := h
  have hak : ∀ b ∈ a.foot, b ≠ n.id := fun b hb e => hnk (e ▸ find_foot hf b hb)
  refine ⟨fun hi => hak n.id (by simp [An.foot, hi]) rfl, Or.inr (by have := (Ed.dep_find hd (er_find hf)).1; omega), ⟨p, hw, hd⟩, hak a.id (by simp [An.foot, ownFoot]), hpr, ?_⟩
  cases par with
  | none =>
    obtain ⟨rfl, rfl⟩ := h
    refine ⟨S', _, _, _, Ctx.refl sub, ?_, hf, hp, rfl⟩
    rw [beq_self_eq_true]
    show (if (c :: S') = [] then _ else _) = _
    rw [if_neg (by simp)]; rfl
  | some pc =>
    obtain ⟨P, c0⟩ := pc
    obtain ⟨_, hne, _, S0, R, K, E, hC, hE, hfP, hpP, hS⟩ := h
    obtain ⟨R', hC', _⟩ := hC.step hfP
    refine ⟨S', _, _, _, hC', ?_, hf, hp, rfl⟩
    rw [hE]
    congr 1
    have h1 : P.er.kids.del (c0 :: S0) = (P.er.kids.set c0 (sub.er.delSub (c :: S')), false) := by
      rw [Ed.del_some (er_find hfP), if_pos hpP, ← hS, if_neg (by simp)]
    have h2 : (sub.id == n.id) = false := by rw [beq_eq_false_iff_ne]; exact hne
    rw [h2]
    unfold delAt
    cases hb : P.id == n.id
    · rw [if_neg (by simp), if_neg (by simp)]
      unfold Nd.delSub
      rw [show P.er.kids.del (c0 :: S0) = _ from h1]
      rfl
    · rw [if_pos rfl, if_neg (by simp), h1]

/-- Nothing is deleted where the key is none. -/
theorem Left.same {w w' : World} {t : Nat} {n : An} {s : Bs} (h : Tr w t n) (hb : Below w.heap.size w w') (hg : n.er.get s = .none) : Left w t n (drop1 n.er.ents s) w' := by
  refine ⟨n, h.bel hb, ?_, fun h => h, Mut.of_below hb, fun _ hb => Or.inl hb⟩
  rw [Nd.get_ok h.wf] at hg
  exact (drop1_off fun x hx => look_none.1 hg x hx).symm

/-- The end of a deletion. -/
theorem Left.del {w w1 w3 : World} {t : Nat} {n n' : An} {s : Bs} (h : Tr w t n) (hm1 : Mut w w1 [t]) (hT : Turn w1 w3 n n') (her : n'.er = n.er.del s)
    (hbk : Bk w1 t 87 #[.pointer (some ⟨n.id, 0, none⟩), .int .i64 (drop1 n.er.ents s).length]) : Left w t n (drop1 n.er.ents s) w3 := by
  have htn := h.off
  have hi := Nd.del_ok (s := s) h.wf
  have hk3 : Bk w3 t 87 #[.pointer (some ⟨n.id, 0, none⟩), .int .i64 (drop1 n.er.ents s).length] := hbk.of (hT.turned.block t hbk.lt htn)
  refine ⟨n', ⟨?_, hT.ok, hT.nodup, ?_, ?_⟩, ?_, fun hc => ?_, ?_, fun b hb => (hT.sub b hb).imp (fun h => h) fun h => Nat.le_trans hm1.size h⟩
  · rw [hT.id, her, hi.2.1]; exact hk3
  · rw [her]; exact hi.1
  · rw [her]; exact Nd.dep_del h.dep
  · rw [her]; exact hi.2.1
  · rw [her]; exact hi.2.2 hc
  · exact (hm1.mono (G := t :: n.foot) (by simp)).trans (hT.turned.mono (G := t :: n.foot) (by simp +contextual)) fun b hb => Or.inl hb

theorem Und.done {n P sub : An} {c : UInt8} {s : Bs} {l : Lv} (h : Und n P c sub s []) (hl : sub.lf = some l) :
    ∃ R K E, Ctx n P R K E ∧ n.er.del s = E (if (P.id == n.id) = true then ⟨P.er.lf, P.er.pre, P.er.kids.drop c sub.er⟩ else Nd.tidy ⟨P.er.lf, P.er.pre, P.er.kids.drop c sub.er⟩) ∧ P.kids.find c = some sub := by
  obtain ⟨_, _, _, S', R, K, E, hC, hE, hf, hp, hS⟩ := h
  refine ⟨R, K, E, hC, ?_, hf⟩
  have h1 : P.er.kids.del (c :: S') = (P.er.kids.drop c sub.er, true) := by
    rw [Ed.del_some (er_find hf), if_pos hp, ← hS, if_pos rfl]
    show (match sub.lf.map lrow with | none => _ | some _ => _) = _
    rw [hl]; rfl
  rw [hE]
  congr 1
  unfold delAt
  cases P.id == n.id
  · rw [if_neg (by simp), if_neg (by simp)]
    unfold Nd.delSub
    rw [h1]; rfl
  · rw [if_pos rfl, if_pos rfl, h1]

end Go.Proofs.Ytaidaohkbbdimaa
