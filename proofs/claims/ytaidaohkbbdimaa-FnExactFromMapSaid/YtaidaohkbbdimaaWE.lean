/-
  The walks, part E: what an insertion does to a tree in memory (no program in sight).
  The walks, part E2: Insert.
  The walks, part E4: what an insertion does that splits a node (no program in sight).
  The walks, part E5: the two ends of a split (no program in sight).
  The walks, part E3: Insert, the walk.
-/
import Derived.Test.YtaidaohkbbdimaaWD
namespace Go.Proofs.Ytaidaohkbbdimaa
open Go.RowKit

theorem At.ok_add {w : World} : ∀ {T : At} {c : UInt8} {n : An}, T.ok w → n.ok w → (T.add c n).ok w
  | .nil, _, _, _, hn => ⟨hn.1, hn.2, trivial⟩
  | .cons id d lf pre ev k r, c, n, hT, hn => by
    unfold add
    split
    · exact ⟨hT.1, hT.2.1, At.ok_add hT.2.2 hn⟩
    · exact ⟨hn.1, hn.2, hT⟩
theorem At.foot_add : ∀ (T : At) (c : UInt8) (n : An), (T.add c n).foot.Perm (n.foot ++ T.foot)
  | .nil, c, n => by simp [add, foot, An.foot]
  | .cons id d lf pre ev k r, c, n => by
    unfold add
    split
    · simp only [foot]
      have h1 := At.foot_add r c n
      have h2 : (ownFoot id lf ev ++ (k.foot ++ (r.add c n).foot)).Perm ((ownFoot id lf ev ++ k.foot) ++ (n.foot ++ r.foot)) := by
        rw [← List.append_assoc]; exact List.Perm.append_left _ h1
      refine h2.trans ?_
      rw [← List.append_assoc, ← List.append_assoc (ownFoot id lf ev), ← List.append_assoc n.foot]
      exact List.Perm.append_right _ List.perm_append_comm
    · simp only [foot, An.foot]
      rw [List.append_assoc]
theorem At.prs_set_new : ∀ {T : At} {c : UInt8} {n m : An}, T.find c = some n → Asc T.prs → (T.set c m).prs = T.prs.set (ix T.prs c) (c, m.id)
  | .nil, _, _, _, h, _ => by cases h
  | .cons id d lf pre ev k r, c, n, m, h, ha => by
    unfold find at h
    unfold set
    have ha' := List.pairwise_cons.1 ha
    by_cases hc : d = c
    · rw [if_pos hc]
      have e : ix (prs (.cons id d lf pre ev k r)) c = 0 := by
        have : ¬ d < c := by rw [hc]; exact UInt8.lt_irrefl _
        simp [ix, prs, this]
      rw [e]
      simp [prs, hc]
    · rw [if_neg hc] at h ⊢
      have h1 : prFind r.prs c = some n.id := by rw [At.prs_find, h]; rfl
      obtain ⟨h2, h3⟩ := prFind_some ha'.2 h1
      have hlt : d < c := by
        have := ha'.1 _ (List.getElem_mem h2)
        rw [h3] at this; exact this
      have e : ix (prs (.cons id d lf pre ev k r)) c = ix r.prs c + 1 := by simp [ix, prs, hlt]
      rw [e]
      simp only [prs, List.set_cons_succ, At.prs_set_new h ha'.2]

theorem Ctx.nodup {root sub : An} {R : List Nat} {K : An → An} {E : Nd → Nd} (h : Ctx root sub R K E) (hn : root.foot.Nodup) : sub.foot.Nodup := by
  have hp := h.foot sub
  rw [h.self] at hp
  exact (List.nodup_append.1 (hp.nodup_iff.1 hn)).1

theorem nodup_app {a b : List Nat} (h : (a ++ b).Nodup) : ∀ x ∈ a, x ∉ b := fun x hx hb => (List.nodup_append.1 h).2.2 x hx x hb rfl

/-- The value of a node's leaf is turned. -/
theorem turn_val {w w2 : World} {sub : An} {l : Lv} {v : Int} (h : sub.ok w) (hn : sub.foot.Nodup) (hl : sub.lf = some l) (hm : Mut w w2 [l.id]) (hb : Bk w2 l.id 94 #[.string l.key, boxv v]) :
    Turn w w2 sub { sub with lf := some { l with val := v } } := by
  obtain ⟨id, lf, pre, ev, kids⟩ := sub
  simp only at hl
  subst hl
  have hN := h.1
  have hL : Bk w l.id 94 #[.string l.key, boxv l.val] := hN.leaf
  refine ⟨⟨⟨hN.blk.of (hm.block id hN.blk.lt ?_), hb, own_of hN.row fun b hbb => hm.block b (own_lt hN.row hbb) ?_⟩, At.keep h.2 hm fun b hbb => ?_⟩, rfl, hm.mono fun b hbb => ?_, hn, fun b hbb => Or.inl hbb⟩
  · have := hN.blk.ne_ hL (by decide)
    simpa using this
  · have := own_ne_bk hN.row hL (by decide)
    intro hi
    have e : b = l.id := by simpa using hi
    subst e
    exact this (by simpa using hbb)
  · have := nodup_app hn l.id (by simp [ownFoot, lfoot])
    intro hi
    have e : b = l.id := by simpa using hi
    subst e
    exact this hbb
  · have e : b = l.id := by simpa using hbb
    subst e
    simp [An.foot, ownFoot, lfoot]

/-- A node without a leaf gets one. -/
theorem turn_leaf {w w2 : World} {sub : An} {l : Lv} (h : sub.ok w) (hn : sub.foot.Nodup) (hl : sub.lf = none) (hm : Mut w w2 [sub.id]) (hk : Bk w2 sub.id 85 #[lptr (some l), .string sub.pre, sub.ev])
    (hb : Bk w2 l.id 94 #[.string l.key, boxv l.val]) (hnew : w.heap.size ≤ l.id) :
    Turn w w2 sub { sub with lf := some l } := by
  obtain ⟨id, lf, pre, ev, kids⟩ := sub
  simp only at hl hm hk
  subst hl
  have hN := h.1
  have hlt := An.lt h
  refine ⟨⟨⟨hk, hb, own_of hN.row fun b hbb => hm.block b (own_lt hN.row hbb) ?_⟩, At.keep h.2 hm fun b hbb => ?_⟩, rfl, hm.mono fun b hbb => ?_, ?_, fun b hbb => ?_⟩
  · have := own_ne_bk hN.row hN.blk (by decide)
    intro hi
    have e : b = id := by simpa using hi
    subst e
    exact this (by simpa using hbb)
  · have := nodup_app hn id (by simp [ownFoot])
    intro hi
    have e : b = id := by simpa using hi
    subst e
    exact this hbb
  · have e : b = id := by simpa using hbb
    subst e
    simp [An.foot, ownFoot]
  · have hp : (An.foot ⟨id, some l, pre, ev, kids⟩).Perm (l.id :: An.foot ⟨id, none, pre, ev, kids⟩) := by
      simp only [An.foot, ownFoot, lfoot]
      exact List.Perm.swap _ _ _
    rw [hp.nodup_iff]
    refine List.nodup_cons.2 ⟨fun hi => ?_, hn⟩
    have := hlt _ hi
    omega
  · have hb2 : b = l.id ∨ b ∈ An.foot ⟨id, none, pre, ev, kids⟩ := by
      have hp : (An.foot ⟨id, some l, pre, ev, kids⟩).Perm (l.id :: An.foot ⟨id, none, pre, ev, kids⟩) := by
        simp only [An.foot, ownFoot, lfoot]
        exact List.Perm.swap _ _ _
      exact List.mem_cons.1 (hp.mem_iff.1 hbb)
    rcases hb2 with e | hb2
    · exact Or.inr (e ▸ hnew)
    · exact Or.inl hb2

/-- A node gets one more child. -/
theorem turn_add {w w1 w2 : World} {sub m : An} {c : UInt8} {ev' : Value} (h : sub.ok w) (hn : sub.foot.Nodup) (hb : Below w.heap.size w w1) (hm : Mut w1 w2 (sub.id :: sub.ev.ownBlock.toList))
    (hN : NdOk w2 sub.id sub.lf sub.pre ev' (prAdd sub.kids.prs (c, m.id))) (he : ∀ b, ev'.ownBlock = some b → sub.ev.ownBlock = some b ∨ w1.heap.size ≤ b)
    (hmo : m.ok w1) (hmn : m.foot.Nodup) (hmw : ∀ b ∈ m.foot, w.heap.size ≤ b) :
    Turn w w2 sub { sub with ev := ev', kids := sub.kids.add c m } := by
  obtain ⟨id, lf, pre, ev, kids⟩ := sub
  simp only at hm hN he
  have hlt := An.lt h
  have hmlt := An.lt hmo
  have hsz := hb.size
  have hm2 : m.ok w2 := An.keep hmo hm fun b hbb hi => by
    have h1 := hmw b hbb
    have h2 : b ∈ An.foot ⟨id, lf, pre, ev, kids⟩ := by
      simp only [An.foot, ownFoot, List.mem_append, List.mem_cons] at hi ⊢
      rcases hi with hi | hi
      · exact Or.inl (Or.inl hi)
      · exact Or.inl (Or.inr (Or.inr hi))
    have := hlt b h2
    omega
  have hk2 : kids.ok w2 := At.keep (At.bel h.2 hb) hm fun b hbb hi => by
    have h2 : b ∈ ownFoot id lf ev := by
      simp only [ownFoot, List.mem_append, List.mem_cons] at hi ⊢
      rcases hi with hi | hi
      · exact Or.inl hi
      · exact Or.inr (Or.inr hi)
    exact nodup_app hn b h2 hbb
  have hper : (An.foot ⟨id, lf, pre, ev', kids.add c m⟩).Perm (m.foot ++ (ownFoot id lf ev' ++ kids.foot)) := by
    show (ownFoot id lf ev' ++ (kids.add c m).foot).Perm _
    refine (List.Perm.append_left _ (At.foot_add kids c m)).trans ?_
    rw [← List.append_assoc, ← List.append_assoc]
    exact List.Perm.append_right _ List.perm_append_comm
  have hev : ∀ b ∈ ev'.ownBlock.toList, b ∈ ev.ownBlock.toList ∨ w1.heap.size ≤ b := fun b hbb => by
    have := he b (by simpa using hbb)
    simpa using this
  have hfi : ∀ b ∈ ownFoot id lf ev' ++ kids.foot, b ∈ An.foot ⟨id, lf, pre, ev, kids⟩ ∨ w1.heap.size ≤ b := by
    intro b hbb
    simp only [An.foot, ownFoot, List.mem_append, List.mem_cons] at hbb ⊢
    rcases hbb with (hbb | hbb | hbb) | hbb
    · exact Or.inl (Or.inl (Or.inl hbb))
    · exact Or.inl (Or.inl (Or.inr (Or.inl hbb)))
    · rcases hev b hbb with h1 | h1
      · exact Or.inl (Or.inl (Or.inr (Or.inr h1)))
      · exact Or.inr h1
    · exact Or.inl (Or.inr hbb)
  refine ⟨⟨?_, At.ok_add hk2 hm2⟩, rfl, (Mut.of_below hb).trans (hm.mono fun b hbb => ?_) (fun b hbb => Or.inl hbb), ?_, fun b hbb => ?_⟩
  · show NdOk w2 id lf pre ev' (kids.add c m).prs
    rw [At.prs_add]; exact hN
  · simp only [An.foot, ownFoot, List.mem_append, List.mem_cons] at hbb ⊢
    rcases hbb with hbb | hbb
    · exact Or.inl (Or.inl hbb)
    · exact Or.inl (Or.inr (Or.inr hbb))
  · rw [hper.nodup_iff, List.nodup_append]
    refine ⟨hmn, ?_, fun x hx y hy e => ?_⟩
    · -- the own blocks, with the new row
      have hn' : (ownFoot id lf ev ++ kids.foot).Nodup := hn
      rw [show ownFoot id lf ev' ++ kids.foot = (id :: lfoot lf) ++ (ev'.ownBlock.toList ++ kids.foot) by simp [ownFoot]]
      rw [show ownFoot id lf ev ++ kids.foot = (id :: lfoot lf) ++ (ev.ownBlock.toList ++ kids.foot) by simp [ownFoot]] at hn'
      rw [List.nodup_append] at hn' ⊢
      obtain ⟨g1, g2, g3⟩ := hn'
      rw [List.nodup_append] at g2 ⊢
      obtain ⟨g4, g5, g6⟩ := g2
      refine ⟨g1, ⟨?_, g5, fun x hx y hy e => ?_⟩, fun x hx y hy e => ?_⟩
      · cases ev'.ownBlock <;> simp
      · subst e
        rcases hev x hx with h1 | h1
        · exact g6 x h1 x hy rfl
        · have := hlt x (by simp only [An.foot, List.mem_append]; exact Or.inr hy); omega
      · subst e
        rcases List.mem_append.1 hy with hy | hy
        · rcases hev x hy with h1 | h1
          · exact g3 x hx x (List.mem_append.2 (Or.inl h1)) rfl
          · have := hlt x (by simp only [An.foot, ownFoot, List.mem_append, List.mem_cons] at hx ⊢; rcases hx with hx | hx; exact Or.inl (Or.inl hx); exact Or.inl (Or.inr (Or.inl hx))); omega
        · exact g3 x hx x (List.mem_append.2 (Or.inr hy)) rfl
    · subst e
      have h1 := hmw x hx
      have h2 := hmlt x hx
      rcases hfi x hy with h3 | h3
      · have := hlt x h3; omega
      · omega
  · rcases List.mem_append.1 (hper.mem_iff.1 hbb) with h1 | h1
    · exact Or.inr (hmw b h1)
    · rcases hfi b h1 with h3 | h3
      · exact Or.inl h3
      · exact Or.inr (by omega)

/-- A child gives its place to another that has it below itself. -/
theorem turn_split {w w2 : World} {sub a m : An} {c : UInt8} {New : List Nat} (h : sub.ok w) (hn : sub.foot.Nodup) (hf : sub.kids.find c = some a) (ha : Asc sub.kids.prs)
    (hN : NdOk w2 sub.id sub.lf sub.pre sub.ev (sub.kids.prs.set (ix sub.kids.prs c) (c, m.id))) (hm : Mut w w2 (a.id :: sub.ev.ownBlock.toList)) (hmo : m.ok w2)
    (hp : m.foot.Perm (New ++ a.foot)) (hNew : ∀ b ∈ New, w.heap.size ≤ b) (hNn : New.Nodup) :
    Turn w w2 sub { sub with kids := sub.kids.set c m } := by
  obtain ⟨id, lf, pre, ev, kids⟩ := sub
  simp only at hf ha hN hm
  obtain ⟨h1, h2, R, h3, h4⟩ := At.focus hf
  have hlt := An.lt h
  have hk := h3 a
  rw [h1] at hk
  have hfp : (An.foot ⟨id, lf, pre, ev, kids⟩).Perm (a.foot ++ (ownFoot id lf ev ++ R)) := by
    show (ownFoot id lf ev ++ kids.foot).Perm _
    refine (List.Perm.append_left _ hk).trans ?_
    rw [← List.append_assoc, ← List.append_assoc]
    exact List.Perm.append_right _ List.perm_append_comm
  have hfm : (An.foot ⟨id, lf, pre, ev, kids.set c m⟩).Perm (New ++ (a.foot ++ (ownFoot id lf ev ++ R))) := by
    show (ownFoot id lf ev ++ (kids.set c m).foot).Perm _
    refine (List.Perm.append_left _ (h3 m)).trans ?_
    rw [← List.append_assoc, ← List.append_assoc, ← List.append_assoc]
    refine List.Perm.append_right _ ?_
    exact (List.perm_append_comm).trans (List.Perm.append_right _ hp)
  have hnd := hfp.nodup_iff.1 hn
  have hd := List.nodup_append.1 hnd
  have haid : a.id ∈ a.foot := by simp [An.foot, ownFoot]
  refine ⟨⟨?_, h4 w w2 m h.2 (fun b hbR => hm.block b (hlt b (hfp.mem_iff.2 (by simp [hbR]))) fun hi => ?_) hmo⟩, rfl, hm.mono fun b hbb => ?_, ?_, fun b hbb => ?_⟩
  · show NdOk w2 id lf pre ev (kids.set c m).prs
    rw [At.prs_set_new hf ha]; exact hN
  · rcases List.mem_cons.1 hi with e | hi
    · subst e
      exact hd.2.2 a.id haid a.id (by simp [hbR]) rfl
    · exact nodup_app hd.2.1 b (by simp only [ownFoot, List.mem_cons, List.mem_append]; exact Or.inr (Or.inr hi)) hbR
  · rcases List.mem_cons.1 hbb with e | hbb
    · subst e; exact hfp.mem_iff.2 (by simp [haid])
    · simp only [An.foot, ownFoot, List.mem_append, List.mem_cons]; exact Or.inl (Or.inr (Or.inr hbb))
  · rw [hfm.nodup_iff, List.nodup_append]
    refine ⟨hNn, hnd, fun x hx y hy e => ?_⟩
    subst e
    have h5 := hlt x (hfp.mem_iff.2 hy)
    have h6 := hNew x hx
    omega
  · rcases List.mem_append.1 (hfm.mem_iff.1 hbb) with h5 | h5
    · exact Or.inr (hNew b h5)
    · exact Or.inl (hfp.mem_iff.2 h5)

end Go.Proofs.Ytaidaohkbbdimaa

namespace Go.Proofs.Ytaidaohkbbdimaa
open Go.RowKit

theorem len_put2 : ∀ {l : List Rw} {k : Bs} {v : Int}, Srt l → (put l k v).length = l.length + (if (look l k).isSome then 0 else 1)
  | [], _, _, _ => rfl
  | x :: r, k, v, h => by
    have h' := srt_cons.1 h
    unfold put
    by_cases h1 : Op.bytesLess x.1 k
    · rw [if_pos h1, List.length_cons, len_put2 h'.2]
      have hne : ¬ x.1 = k := Kl.ne h1
      have : look (x :: r) k = look r k := by simp [look, hne]
      rw [this, List.length_cons]; omega
    · rw [if_neg h1]
      by_cases h2 : x.1 = k
      · rw [if_pos h2]
        have : look (x :: r) k = some x.2 := by simp [look, h2]
        rw [this]; simp
      · rw [if_neg h2]
        have h3 : Kl k x.1 := bl_tri x.1 k (by simpa using h1) h2
        have : look (x :: r) k = none := look_none.2 fun y hy => by
          rcases List.mem_cons.1 hy with rfl | hy
          · exact h2
          · exact (Kl.ne (bl_trans h3 (h'.1 y hy))).symm
        rw [this]; simp

/-- What a block of a tree is. -/
def Kind (w : World) (b : Nat) : Prop := ∃ ty cs, Bk w b ty cs ∧ (ty = 85 ∨ ty = 94 ∨ ty = 99)
theorem NdOk.kind {w : World} {id : Nat} {lf : Option Lv} {pre : ByteArray} {ev : Value} {ps : List Pr} (h : NdOk w id lf pre ev ps) : ∀ b ∈ ownFoot id lf ev, Kind w b := by
  intro b hb
  simp only [ownFoot, List.mem_cons, List.mem_append] at hb
  rcases hb with rfl | hb | hb
  · exact ⟨_, _, h.blk, Or.inl rfl⟩
  · have hl := h.leaf
    cases lf with
    | none => simp [lfoot] at hb
    | some l =>
      simp [lfoot] at hb
      subst hb
      exact ⟨_, _, hl, Or.inr (Or.inl rfl)⟩
  · rcases h.row.2 with ⟨rfl, _⟩ | ⟨g, cap, cur, rfl, _, hg, _⟩
    · simp [Value.ownBlock] at hb
    · have e : b = g := by simpa [Value.ownBlock] using hb
      subst e
      exact ⟨_, _, hg, Or.inr (Or.inr rfl)⟩
theorem At.kind {w : World} : ∀ {T : At}, T.ok w → ∀ b ∈ T.foot, Kind w b
  | .nil, _, b, hb => by simp [foot] at hb
  | .cons _ _ _ _ _ _ _, h, b, hb => by
    simp only [foot, List.mem_append] at hb
    rcases hb with hb | hb | hb
    · exact h.1.kind b hb
    · exact At.kind h.2.1 b hb
    · exact At.kind h.2.2 b hb
theorem An.kind {w : World} {n : An} (h : n.ok w) : ∀ b ∈ n.foot, Kind w b := by
  intro b hb
  rcases List.mem_append.1 hb with hb | hb
  · exact h.1.kind b hb
  · exact At.kind h.2 b hb
theorem Kind.no {w : World} {b : Nat} {ty : TypeId} {cs : Array Value} (h : Kind w b) (hk : Bk w b ty cs) (h1 : ty ≠ 85) (h2 : ty ≠ 94) (h3 : ty ≠ 99) : False := by
  obtain ⟨t', cs', hb, ht⟩ := h
  unfold Bk at hb hk
  rw [hb] at hk
  injection hk with hk
  injection hk with _ hk _
  subst hk
  rcases ht with rfl | rfl | rfl
  · exact h1 rfl
  · exact h2 rfl
  · exact h3 rfl
theorem Tr.off {w : World} {t : Nat} {n : An} (h : Tr w t n) : t ∉ n.foot := fun hi => (An.kind h.ok t hi).no h.blk (by decide) (by decide) (by decide)

/-- What an insertion leaves. -/
def Insd (w : World) (t : Nat) (n : An) (s : Bs) (v : Int) (w' : World) : Prop := ∃ n', Tr w' t n' ∧ n'.er = n.er.ins s s v ∧ Mut w w' (t :: n.foot) ∧ ∀ b ∈ n'.foot, b ∈ n.foot ∨ w.heap.size ≤ b

theorem Insd.of {w w1 w2 w3 : World} {t : Nat} {n sub sub' : An} {s : Bs} {v : Int} {R : List Nat} {K : An → An} {E : Nd → Nd} (h : Tr w t n) (hm1 : Mut w w1 [t]) (hC : Ctx n sub R K E) (hT : Turn w1 w2 sub sub') (hm3 : Mut w2 w3 [t])
    (hbk : Bk w3 t 87 #[.pointer (some ⟨n.id, 0, none⟩), .int .i64 (put n.er.ents s v).length]) (her : E sub'.er = n.er.ins s s v) (hs : s.length ≤ 1000) : Insd w t n s v w3 := by
  have htn := h.off
  have hok1 : n.ok w1 := An.keep h.ok hm1 fun b hb hi => by
    have e : b = t := by simpa using hi
    subst e; exact htn hb
  have hTT := hC.turn hok1 h.nodup hT
  have hi := Nd.ins_ok (s := s) (v := v) h.wf
  have he : (K sub').er = n.er.ins s s v := (hC.er sub').trans her
  have ht1 : t < w1.heap.size := Nat.lt_of_lt_of_le h.blk.lt hm1.size
  have htK : t ∉ (K sub').foot := fun hi => by
    rcases hTT.sub t hi with h1 | h1
    · exact htn h1
    · omega
  refine ⟨K sub', ⟨?_, An.keep hTT.ok hm3 fun b hb hi => ?_, hTT.nodup, ?_, ?_⟩, he, ?_, fun b hb => (hTT.sub b hb).imp (fun h => h) fun h => Nat.le_trans hm1.size h⟩
  · rw [hTT.id, he, hi.2.1]; exact hbk
  · have e : b = t := by simpa using hi
    subst e; exact htK hb
  · rw [he]; exact hi.1
  · rw [he]; exact Nd.dep_ins h.dep hs
  · refine ((hm1.mono (G := t :: n.foot) (by simp)).trans (hTT.turned.mono (G := t :: n.foot) (by simp +contextual)) (fun b hb => Or.inl hb)).trans (hm3.mono (G := t :: n.foot) (by simp)) (fun b hb => Or.inl hb)

/-- Where an insertion stands. -/
def Ist (n sub : An) (s S : Bs) : Prop := ∃ R K E, Ctx n sub R K E ∧ ∀ v, n.er.ins s s v = E (sub.er.ins S s v)

theorem Ist.start (n : An) (s : Bs) : Ist n n s s := ⟨[], _, _, Ctx.refl n, fun _ => rfl⟩
theorem Ist.step {n sub a : An} {s p S' : Bs} {c : UInt8} (h : Ist n sub s (c :: S')) (hw : sub.er.wf p) (hf : sub.kids.find c = some a) (hp : lcp (c :: S') a.er.pre = a.er.pre.length) : Ist n a s ((c :: S').drop a.er.pre.length) := by
  obtain ⟨R, K, E, hC, hE⟩ := h
  obtain ⟨R', hC', _⟩ := hC.step hf
  refine ⟨_, _, _, hC', fun v => ?_⟩
  rw [hE]
  congr 1
  show (if (c :: S') = [] then _ else _) = _
  rw [if_neg (by simp)]
  have := Ed.ins_some (key := s) (v := v) (s := S') hw.2 (er_find hf)
  rw [if_pos hp] at this
  rw [this]

/-- A turning of the block t that is done ahead may as well be done behind. -/
theorem Mut.swap {wr w3 : World} {F : List Nat} {p : Addr} {u : Value} (hm : Mut wr w3 (p.block :: F)) (h1 : w3.heap[p.block]? = (wr.setCell p u).heap[p.block]?) : Mut (wr.setCell p u) w3 F := by
  refine ⟨hm.os, hm.tape, hm.output, by rw [World.size_setCell]; exact hm.size, fun b hb hF => ?_⟩
  rw [World.size_setCell] at hb
  by_cases hbp : b = p.block
  · subst hbp; exact h1
  · rw [Below.heap_setCell _ _ _ _ hbp]
    exact hm.block b hb (by simp [hbp, hF])

theorem Insd.leaf {w wr : World} {t : Nat} {n sub : An} {s : ByteArray} {v : Int} (h : Tr w t n) (hb : Below w.heap.size w wr) (hsub : sub.ok wr) (hI : Ist n sub s.data.toList []) (hlf : sub.lf = none) (hs : s.size ≤ 1000)
    (hput : (put n.er.ents s.data.toList v).length = n.er.ents.length + 1) :
    Insd w t n s.data.toList v (((wr.setCell ⟨sub.id, 0, none⟩ (.pointer (some ⟨wr.heap.size, 0, none⟩))).setCell ⟨t, 1, none⟩ (.int .i64 ((n.er.ents.length : Int) + 1))).alloc (.cells #[.string s, .iface 3 (.int .i64 v)] 94)) := by
  obtain ⟨R, K, E, hC, hE⟩ := hI
  have hn := hC.nodup h.nodup
  have hTr := h.bel hb
  have hN := hsub.1
  have htid : t ≠ sub.id := hTr.blk.ne_ hN.blk (by decide)
  have htf : t ∉ sub.foot := fun hi => (An.kind hsub t hi).no hTr.blk (by decide) (by decide) (by decide)
  have hm : Mut wr (((wr.setCell ⟨sub.id, 0, none⟩ (.pointer (some ⟨wr.heap.size, 0, none⟩))).setCell ⟨t, 1, none⟩ (.int .i64 ((n.er.ents.length : Int) + 1))).alloc (.cells #[.string s, .iface 3 (.int .i64 v)] 94)) [t, sub.id] :=
    (((Mut.refl wr _).setCell (Or.inl (by simp)) _).setCell (Or.inl (by simp)) _).alloc _
  have hk3 : Bk (((wr.setCell ⟨sub.id, 0, none⟩ (.pointer (some ⟨wr.heap.size, 0, none⟩))).setCell ⟨t, 1, none⟩ (.int .i64 ((n.er.ents.length : Int) + 1))).alloc (.cells #[.string s, .iface 3 (.int .i64 v)] 94)) t 87 #[.pointer (some ⟨n.id, 0, none⟩), .int .i64 ((n.er.ents.length : Int) + 1)] :=
    ((hTr.blk.far (p := ⟨sub.id, 0, none⟩) htid _).set_ 1 _).alloc _
  have hm1 : Mut w (wr.setCell ⟨t, 1, none⟩ (.int .i64 ((n.er.ents.length : Int) + 1))) [t] := (Mut.of_below hb).setCell (Or.inl (by simp)) _
  have hm13 := Mut.swap (p := ⟨t, 1, none⟩) (u := .int .i64 ((n.er.ents.length : Int) + 1)) hm (hk3.trans (hTr.blk.set_ 1 _).symm)
  have hsub1 : sub.ok (wr.setCell ⟨t, 1, none⟩ (.int .i64 ((n.er.ents.length : Int) + 1))) := An.keep hsub ((Mut.refl wr [t]).setCell (Or.inl (by simp)) _) fun b hbb hi => by
    have e : b = t := by simpa using hi
    subst e; exact htf hbb
  have hsz : ((wr.setCell ⟨sub.id, 0, none⟩ (.pointer (some ⟨wr.heap.size, 0, none⟩))).setCell ⟨t, 1, none⟩ (.int .i64 ((n.er.ents.length : Int) + 1))).heap.size = wr.heap.size := by rw [World.size_setCell, World.size_setCell]
  have hT := turn_leaf (l := ⟨wr.heap.size, s, v⟩) hsub1 hn hlf hm13 (((hN.blk.set_ 0 _).far (p := ⟨t, 1, none⟩) (Ne.symm htid) _).alloc _)
    (by have := Bk.new ((wr.setCell ⟨sub.id, 0, none⟩ (.pointer (some ⟨wr.heap.size, 0, none⟩))).setCell ⟨t, 1, none⟩ (.int .i64 ((n.er.ents.length : Int) + 1))) 94 #[.string s, .iface 3 (.int .i64 v)]
        rw [hsz] at this; exact this) (by rw [World.size_setCell]; exact Nat.le_refl _)
  refine Insd.of h hm1 hC hT (Mut.refl _ _) ?_ ?_ (by rw [ba_len]; exact hs)
  · rw [hput]; exact hk3
  · rw [hE]; rfl

/-- The world before a new child is added. -/
def newKid (w : World) (s S : ByteArray) (c : UInt8) (v : Int) : World :=
  ((w.alloc (.cells #[.string s, .iface 3 (.int .i64 v)] 94)).alloc (.cells #[.pointer (some ⟨w.heap.size, 0, none⟩), .string S, .slice none 0 0] 85)).alloc (.cells #[.int .u8 c.toNat, .pointer (some ⟨w.heap.size + 1, 0, none⟩)] 99)
def kidOf (w : World) (s S : ByteArray) (v : Int) : An := ⟨w.heap.size + 1, some ⟨w.heap.size, s, v⟩, S, .slice none 0 0, .nil⟩
theorem newKid_below (w : World) (s S : ByteArray) (c : UInt8) (v : Int) : Below w.heap.size w (newKid w s S c v) :=
  (((Below.refl _ w).alloc (Nat.le_refl _) _).alloc (by simp) _).alloc (by simp; omega) _
theorem newKid_ok (w : World) (s S : ByteArray) (c : UInt8) (v : Int) : (kidOf w s S v).ok (newKid w s S c v) := by
  have h1 : Bk (newKid w s S c v) w.heap.size 94 #[.string s, .iface 3 (.int .i64 v)] := ((Bk.new w _ _).alloc _).alloc _
  have h2 : Bk (newKid w s S c v) (w.heap.size + 1) 85 #[.pointer (some ⟨w.heap.size, 0, none⟩), .string S, .slice none 0 0] := by
    have := (Bk.new (w.alloc (.cells #[.string s, .iface 3 (.int .i64 v)] 94)) 85 #[.pointer (some ⟨w.heap.size, 0, none⟩), .string S, .slice none 0 0]).alloc (.cells #[.int .u8 c.toNat, .pointer (some ⟨w.heap.size + 1, 0, none⟩)] 99)
    rw [World.size_alloc] at this
    exact this
  exact ⟨⟨h2, h1, ⟨rfl, Or.inl ⟨rfl, rfl⟩⟩⟩, trivial⟩
theorem kidOf_foot (w : World) (s S : ByteArray) (v : Int) : (kidOf w s S v).foot = [w.heap.size + 1, w.heap.size] := by
  simp [kidOf, An.foot, ownFoot, lfoot, At.foot, Value.ownBlock]

theorem Insd.add {w wr w' w2 : World} {t : Nat} {n sub : An} {s S : ByteArray} {v : Int} {p S' : Bs} {c : UInt8} {e : Ending} (h : Tr w t n) (hb : Below w.heap.size w wr) (hb' : Below wr.heap.size wr w') (hD : Dn w n sub s.data.toList p (c :: S')) (hI : Ist n sub s.data.toList (c :: S')) (hS : S.data.toList = c :: S')
    (hf : sub.kids.find c = none) (hs : s.size ≤ 1000) (hput : (put n.er.ents s.data.toList v).length = n.er.ents.length + 1)
    (hA : Added (newKid w' s S c v) sub.id sub.lf sub.pre sub.ev (prAdd sub.kids.prs (c, w'.heap.size + 1)) e w2) :
    w2.cell? ⟨t, 1, none⟩ = some (.int .i64 n.er.ents.length) ∧ w2.frozen? ⟨t, 1, none⟩ = false ∧ Insd w t n s.data.toList v (w2.setCell ⟨t, 1, none⟩ (.int .i64 ((n.er.ents.length : Int) + 1))) := by
  obtain ⟨_, ev', hN2, hm, he⟩ := hA
  obtain ⟨R, K, E, hC, hE⟩ := hI
  have hsub := (hD.bel hb).ok
  have hn := hC.nodup h.nodup
  have hTr := h.bel hb
  have hbA : Below wr.heap.size wr (newKid w' s S c v) := hb'.trans ((newKid_below w' s S c v).mono hb'.size)
  have hk := newKid_ok w' s S c v
  have hkf := kidOf_foot w' s S v
  have hsz := hb'.size
  have hT := turn_add (m := kidOf w' s S v) hsub hn hbA hm hN2 he hk (by rw [hkf]; simp) (fun b hb => by
    rw [hkf] at hb
    simp only [List.mem_cons, List.not_mem_nil, or_false] at hb
    rcases hb with rfl | rfl <;> omega)
  have htf : t ∉ sub.foot := fun hi => (An.kind hsub t hi).no hTr.blk (by decide) (by decide) (by decide)
  have hk2 : Bk w2 t 87 #[.pointer (some ⟨n.id, 0, none⟩), .int .i64 n.er.ents.length] := hTr.blk.of (hT.turned.block t hTr.blk.lt htf)
  refine ⟨by rw [hk2.cell]; rfl, hk2.frozen 1, Insd.of h (Mut.of_below hb) hC hT ((Mut.refl w2 [t]).setCell (Or.inl (by simp)) _) ?_ ?_ (by rw [ba_len]; exact hs)⟩
  · rw [hput]; exact hk2.set_ 1 _
  · rw [hE]
    congr 1
    show Nd.mk _ _ (sub.kids.add c (kidOf w' s S v)).er = Nd.ins _ _ _ _
    unfold Nd.ins
    rw [if_neg (by simp), Ed.ins_none hD.wf.2 (er_find hf), At.er_add]
    show Nd.mk _ _ _ = Nd.mk _ _ (Ed.add _ _ _)
    rw [← hS]; rfl

end Go.Proofs.Ytaidaohkbbdimaa

namespace Go.Proofs.Ytaidaohkbbdimaa
open Go.RowKit

/-- The world where a split begins: the number of entries is told, the new node laid. -/
def spl0 (w : World) (t : Nat) (k : Int) : World := w.setCell ⟨t, 1, none⟩ (.int .i64 k)
def spl1 (w : World) (t : Nat) (k : Int) (pre : ByteArray) : World := (spl0 w t k).alloc (.cells #[.pointer none, .string pre, .slice none 0 0] 85)

theorem spl0_mut (w : World) (t : Nat) (k : Int) : Mut w (spl0 w t k) [t] := (Mut.refl w _).setCell (Or.inl (by simp)) _
theorem spl0_size (w : World) (t : Nat) (k : Int) : (spl0 w t k).heap.size = w.heap.size := World.size_setCell _ _ _

/-- Behind the first addEdge of a split. -/
structure Mid (w0 w2 : World) (sub a : An) (c d : UInt8) (C : Nat) (pre : ByteArray) (ev1 : Value) : Prop where
  ok0 : sub.ok w0
  nd : NdOk w2 sub.id sub.lf sub.pre sub.ev (sub.kids.prs.set (ix sub.kids.prs c) (c, C))
  child : NdOk w2 C none pre ev1 [(d, a.id)]
  old : a.ok w2
  turned : Mut w0 w2 sub.ev.ownBlock.toList
  new : w0.heap.size ≤ C
  row : ∀ b, ev1.ownBlock = some b → w0.heap.size ≤ b

theorem Mid.first {w0 w1 : World} {sub a : An} {c : UInt8} {pre : ByteArray} {e1 : Ending} (h0 : sub.ok w0) (hn : sub.foot.Nodup) (hf : sub.kids.find c = some a)
    (hU : Updated (w0.alloc (.cells #[.pointer none, .string pre, .slice none 0 0] 85)) sub.id sub.lf sub.pre sub.ev (sub.kids.prs.set (ix sub.kids.prs c) (c, w0.heap.size)) e1 w1) :
    NdOk w1 w0.heap.size none pre (.slice none 0 0) [] ∧ a.ok w1 := by
  obtain ⟨_, hN1, hm1⟩ := hU
  have hown : ∀ b ∈ sub.ev.ownBlock.toList, b ∈ sub.foot := fun b hb => by
    simp only [An.foot, ownFoot, List.mem_append, List.mem_cons]; exact Or.inl (Or.inr (Or.inr hb))
  have hlt := An.lt h0
  refine ⟨?_, ?_⟩
  · have hk : Bk (w0.alloc (.cells #[.pointer none, .string pre, .slice none 0 0] 85)) w0.heap.size 85 #[.pointer none, .string pre, .slice none 0 0] := Bk.new _ _ _
    refine ⟨hk.of (hm1.block _ hk.lt fun hi => ?_), trivial, ⟨rfl, Or.inl ⟨rfl, rfl⟩⟩⟩
    have := hlt _ (hown _ hi)
    omega
  · obtain ⟨_, hao, R, hR, _⟩ := At.focus hf
    have ha0 := hao w0 h0.2
    have halt := An.lt ha0
    have hk := hR a
    rw [(At.focus hf).1] at hk
    have haf : ∀ b ∈ a.foot, b ∉ ownFoot sub.id sub.lf sub.ev := fun b hb hi => nodup_app hn b hi (hk.mem_iff.2 (by simp [hb]))
    exact An.ok_of ha0 fun b hb => by
      have h2 := halt b hb
      rw [hm1.block b (by simp; omega) fun hi => haf b hb (by simp only [ownFoot, List.mem_append, List.mem_cons]; exact Or.inr (Or.inr hi))]
      exact Below.heap_alloc w0 _ b h2

theorem Mid.of {w0 w1 w2 : World} {sub a : An} {c d : UInt8} {pre : ByteArray} {e1 e2 : Ending} (h0 : sub.ok w0) (hn : sub.foot.Nodup) (hf : sub.kids.find c = some a)
    (hU : Updated (w0.alloc (.cells #[.pointer none, .string pre, .slice none 0 0] 85)) sub.id sub.lf sub.pre sub.ev (sub.kids.prs.set (ix sub.kids.prs c) (c, w0.heap.size)) e1 w1)
    (hA : Added w1 w0.heap.size none pre (.slice none 0 0) [(d, a.id)] e2 w2) :
    ∃ ev1, Mid w0 w2 sub a c d w0.heap.size pre ev1 := by
  obtain ⟨_, h1⟩ := Mid.first h0 hn hf hU
  obtain ⟨_, hN1, hm1⟩ := hU
  have hlt := An.lt h0
  obtain ⟨_, hao, R, hR, _⟩ := At.focus hf
  have halt := An.lt (hao w0 h0.2)
  obtain ⟨_, ev1, hN2, hm2, he⟩ := hA
  have hms := hm1.size
  simp at hms
  refine ⟨ev1, h0, ?_, hN2, ?_, ?_, Nat.le_refl _, fun b hb => ?_⟩
  · refine hN1.of fun b hb => hm2.block b (hN1.lt b hb) fun hi => ?_
    have e : b = w0.heap.size := by simpa [Value.ownBlock] using hi
    have := hlt b (by simp only [An.foot, List.mem_append]; exact Or.inl hb)
    omega
  · refine An.ok_of h1 fun b hb => hm2.block b (An.lt h1 b hb) fun hi => ?_
    have e : b = w0.heap.size := by simpa [Value.ownBlock] using hi
    have := halt b hb
    omega
  · refine (((Mut.refl w0 sub.ev.ownBlock.toList).alloc _).trans hm1 (fun b hb => Or.inl hb)).trans hm2 fun b hb => Or.inr ?_
    have e : b = w0.heap.size := by simpa [Value.ownBlock] using hb
    omega
  · rcases he b hb with h3 | h3
    · simp [Value.ownBlock] at h3
    · omega

/-- The end of a split. -/
theorem Insd.split {w wr : World} {w' w5 : World} {t q : Nat} {n sub a child : An} {s : ByteArray} {v : Int} {p S' : Bs} {c : UInt8} {New : List Nat} (h : Tr w t n) (hb : Below w.heap.size w wr) (hb' : Below wr.heap.size wr w') (hD : Dn w n sub s.data.toList p (c :: S')) (hI : Ist n sub s.data.toList (c :: S'))
    (hf : sub.kids.find c = some a) (hs : s.size ≤ 1000) (hput : (put n.er.ents s.data.toList v).length = n.er.ents.length + 1) (hl : lcp (c :: S') a.er.pre ≠ a.er.pre.length)
    (hN : NdOk w5 sub.id sub.lf sub.pre sub.ev (sub.kids.prs.set (ix sub.kids.prs c) (c, child.id))) (hm : Mut (spl0 (w'.drewN q) t ((n.er.ents.length : Int) + 1)) w5 (a.id :: sub.ev.ownBlock.toList)) (hmo : child.ok w5)
    (hp : child.foot.Perm (New ++ a.foot)) (hNew : ∀ b ∈ New, w'.heap.size ≤ b) (hNn : New.Nodup) (her : child.er = a.er.split (c :: S') s.data.toList v) :
    Insd w t n s.data.toList v w5 := by
  obtain ⟨R, K, E, hC, hE⟩ := hI
  have hbw : Below w.heap.size w (w'.drewN q) := below_drewN (hb.trans (hb'.mono hb.size)) q
  have hsub := (hD.bel hbw).ok
  have hn := hC.nodup h.nodup
  have hTr := h.bel hbw
  have htf : t ∉ sub.foot := fun hi => (An.kind hsub t hi).no hTr.blk (by decide) (by decide) (by decide)
  have hsub0 : sub.ok (spl0 (w'.drewN q) t ((n.er.ents.length : Int) + 1)) := An.keep hsub (spl0_mut _ _ _) fun b hbb hi => by
    have e : b = t := by simpa using hi
    subst e; exact htf hbb
  have hT := turn_split (m := child) (New := New) hsub0 hn hf (At.asc hD.wf.2) hN hm hmo hp (fun b hbb => by rw [spl0_size]; exact hNew b hbb) hNn
  have hk0 : Bk (spl0 (w'.drewN q) t ((n.er.ents.length : Int) + 1)) t 87 #[.pointer (some ⟨n.id, 0, none⟩), .int .i64 ((n.er.ents.length : Int) + 1)] := hTr.blk.set_ 1 _
  refine Insd.of h ((Mut.of_below hbw).setCell (p := ⟨t, 1, none⟩) (Or.inl (by simp)) _) hC hT (Mut.refl _ _) ?_ ?_ (by rw [ba_len]; exact hs)
  · rw [hput]
    exact hk0.of (hT.turned.block t hk0.lt htf)
  · rw [hE]
    congr 1
    show Nd.mk _ _ (sub.kids.set c child).er = Nd.ins _ _ _ _
    unfold Nd.ins
    rw [if_neg (by simp), Ed.ins_some hD.wf.2 (er_find hf), if_neg hl, At.er_set, her]
    rfl

end Go.Proofs.Ytaidaohkbbdimaa

namespace Go.Proofs.Ytaidaohkbbdimaa
open Go.RowKit

/-- What the end of a split needs. -/
structure Done (w0 w5 : World) (sub a child : An) (c : UInt8) (New : List Nat) : Prop where
  nd : NdOk w5 sub.id sub.lf sub.pre sub.ev (sub.kids.prs.set (ix sub.kids.prs c) (c, child.id))
  turned : Mut w0 w5 (a.id :: sub.ev.ownBlock.toList)
  ok : child.ok w5
  foot : child.foot.Perm (New ++ a.foot)
  new : ∀ b ∈ New, w0.heap.size ≤ b
  nodup : New.Nodup

theorem kid_parts {w0 w2 : World} {sub a : An} {c d : UInt8} {C : Nat} {pre : ByteArray} {ev1 : Value} (hM : Mid w0 w2 sub a c d C pre ev1) (hn : sub.foot.Nodup) (hf : sub.kids.find c = some a) :
    a.id < w0.heap.size ∧ a.id ≠ C ∧ (∀ b ∈ a.foot, b < w0.heap.size) ∧ (∀ b ∈ a.foot, b ∉ ownFoot sub.id sub.lf sub.ev) ∧ a.foot.Nodup := by
  obtain ⟨he, hao, R, hR, _⟩ := At.focus hf
  have ha0 := hao w0 hM.ok0.2
  have halt := An.lt ha0
  have hk := hR a
  rw [he] at hk
  have h1 := halt a.id (by simp [An.foot, ownFoot])
  have h2 := hM.new
  refine ⟨h1, by omega, halt, fun b hb hi => nodup_app hn b hi (hk.mem_iff.2 (by simp [hb])), ?_⟩
  have h3 : sub.kids.foot.Nodup := (List.nodup_append.1 (show (ownFoot sub.id sub.lf sub.ev ++ sub.kids.foot).Nodup from hn)).2.1
  exact (List.nodup_append.1 (hk.nodup_iff.1 h3)).1

/-- The world behind the storing of the old child's text. -/
def spl3 (w2 : World) (a : An) (ap : ByteArray) : World := w2.setCell ⟨a.id, 1, none⟩ (.string ap)

theorem old_ok {w2 w5 : World} {a : An} {C : Nat} {ap : ByteArray} (h : a.ok w2) (hn : a.foot.Nodup) (hm : Mut w2 w5 [a.id, C]) (hC : C ∉ a.foot) (hk : Bk w5 a.id 85 #[lptr a.lf, .string ap, a.ev]) :
    An.ok w5 { a with pre := ap } := by
  have hb : ∀ b, b ∈ a.foot → b ≠ a.id → w5.heap[b]? = w2.heap[b]? := fun b hb hne => hm.block b (An.lt h b hb) fun hi => by
    simp only [List.mem_cons, List.not_mem_nil, or_false] at hi
    rcases hi with rfl | rfl
    · exact hne rfl
    · exact hC hb
  have hnn : (a.id :: (lfoot a.lf ++ a.ev.ownBlock.toList ++ a.kids.foot)).Nodup := by
    have : a.foot = a.id :: (lfoot a.lf ++ a.ev.ownBlock.toList ++ a.kids.foot) := by simp [An.foot, ownFoot]
    rwa [this] at hn
  have hne : ∀ b ∈ lfoot a.lf ++ a.ev.ownBlock.toList ++ a.kids.foot, b ≠ a.id ∧ b ∈ a.foot := fun b hb => ⟨fun e => (List.nodup_cons.1 hnn).1 (e ▸ hb), by simp only [An.foot, ownFoot, List.mem_append, List.mem_cons] at hb ⊢; rcases hb with (hb | hb) | hb <;> simp [hb]⟩
  exact ⟨⟨hk, h.1.leaf.of fun b hbb => hb b (hne b (by simp [hbb])).2 (hne b (by simp [hbb])).1, own_of h.1.row fun b hbb => hb b (hne b (by simp [hbb])).2 (hne b (by simp [hbb])).1⟩,
    At.ok_of h.2 fun b hbb => hb b (hne b (by simp [hbb])).2 (hne b (by simp [hbb])).1⟩

theorem Mid.leaf {w0 w2 w5 : World} {sub a : An} {c d : UInt8} {C L : Nat} {pre ap s : ByteArray} {ev1 : Value} {v : Int} (hM : Mid w0 w2 sub a c d C pre ev1) (hn : sub.foot.Nodup) (hf : sub.kids.find c = some a)
    (hm : Mut w2 w5 [a.id, C]) (hL : w2.heap.size ≤ L) (hk : Bk w5 C 85 #[.pointer (some ⟨L, 0, none⟩), .string pre, ev1]) (ha : Bk w5 a.id 85 #[lptr a.lf, .string ap, a.ev]) (hl : Bk w5 L 94 #[.string s, boxv v]) :
    Done w0 w5 sub a ⟨C, some ⟨L, s, v⟩, pre, ev1, .cons a.id d a.lf ap a.ev a.kids .nil⟩ c (C :: L :: ev1.ownBlock.toList) := by
  obtain ⟨g1, g2, g3, g4, g5⟩ := kid_parts hM hn hf
  have hs02 := hM.turned.size
  have hnew := hM.new
  have hCf : C ∉ a.foot := fun hi => by have := g3 C hi; omega
  have hevC : ev1.ownBlock ≠ some C := own_ne_bk hM.child.row hM.child.blk (by decide)
  have heva : ev1.ownBlock ≠ some a.id := own_ne_bk hM.child.row hM.old.1.blk (by decide)
  refine ⟨hM.nd.of fun b hb => hm.block b (hM.nd.lt b hb) fun hi => ?_, (hM.turned.mono (by simp +contextual)).trans hm fun b hb => ?_, ⟨⟨hk, hl, own_of hM.child.row fun b hb => hm.block b (own_lt hM.child.row hb) fun hi => ?_⟩, ?_⟩, ?_, fun b hb => ?_, ?_⟩
  · simp only [List.mem_cons, List.not_mem_nil, or_false] at hi
    rcases hi with rfl | rfl
    · exact g4 a.id (by simp [An.foot, ownFoot]) hb
    · have := An.lt hM.ok0 b (by simp only [An.foot, List.mem_append]; exact Or.inl hb); omega
  · simp only [List.mem_cons, List.not_mem_nil, or_false] at hb
    rcases hb with rfl | rfl
    · exact Or.inl (by simp)
    · exact Or.inr hnew
  · simp only [List.mem_cons, List.not_mem_nil, or_false] at hi
    rcases hi with rfl | rfl
    · exact heva hb
    · exact hevC hb
  · have := old_ok hM.old g5 hm hCf ha
    exact ⟨this.1, this.2, trivial⟩
  · simp only [An.foot, ownFoot, lfoot, At.foot, List.append_nil, List.cons_append, List.nil_append, List.append_assoc]
    exact List.Perm.refl _
  · simp only [List.mem_cons, Option.mem_toList] at hb
    rcases hb with rfl | rfl | hb
    · exact hnew
    · omega
    · exact hM.row b hb
  · have h1 := hM.child.blk.lt
    refine List.nodup_cons.2 ⟨fun hi => ?_, List.nodup_cons.2 ⟨fun hi => ?_, by cases ev1.ownBlock <;> simp⟩⟩
    · simp only [List.mem_cons, Option.mem_toList] at hi
      rcases hi with rfl | hi
      · omega
      · exact hevC hi
    · have := own_lt hM.child.row (show ev1.ownBlock = some L by simpa using hi)
      omega

/-- The world where the second new child is added. -/
def spl4 (w2 : World) (a : An) (ap s rest : ByteArray) (v : Int) : World :=
  ((spl3 w2 a ap).alloc (.cells #[.string s, .iface 3 (.int .i64 v)] 94)).alloc (.cells #[.pointer (some ⟨w2.heap.size, 0, none⟩), .string rest, .slice none 0 0] 85)

theorem Mid.kid {w0 w2 w6 : World} {sub a : An} {c d b0 : UInt8} {C : Nat} {pre ap s rest : ByteArray} {ev1 : Value} {v : Int} {e : Ending} (hM : Mid w0 w2 sub a c d C pre ev1) (hn : sub.foot.Nodup) (hf : sub.kids.find c = some a)
    (hA : NdOk (spl4 w2 a ap s rest v) C none pre ev1 [(d, a.id)] → Added (spl4 w2 a ap s rest v) C none pre ev1 (prAdd [(d, a.id)] (b0, w2.heap.size + 1)) e w6) :
    NdOk (spl4 w2 a ap s rest v) C none pre ev1 [(d, a.id)] ∧ ∃ ev2, Done w0 w6 sub a ⟨C, none, pre, ev2, (At.cons a.id d a.lf ap a.ev a.kids .nil).add b0 ⟨w2.heap.size + 1, some ⟨w2.heap.size, s, v⟩, rest, .slice none 0 0, .nil⟩⟩ c (C :: (w2.heap.size + 1) :: w2.heap.size :: ev2.ownBlock.toList) := by
  obtain ⟨g1, g2, g3, g4, g5⟩ := kid_parts hM hn hf
  have hs02 := hM.turned.size
  have hnew := hM.new
  have hCf : C ∉ a.foot := fun hi => by have := g3 C hi; omega
  have hClt := hM.child.blk.lt
  have hevC : ev1.ownBlock ≠ some C := own_ne_bk hM.child.row hM.child.blk (by decide)
  have heva : ev1.ownBlock ≠ some a.id := own_ne_bk hM.child.row hM.old.1.blk (by decide)
  have hm4 : Mut w2 (spl4 w2 a ap s rest v) [a.id] := (((Mut.refl w2 [a.id]).setCell (p := ⟨a.id, 1, none⟩) (Or.inl (by simp)) _).alloc _).alloc _
  have hsz3 : (spl3 w2 a ap).heap.size = w2.heap.size := World.size_setCell _ _ _
  have hsz4 : (spl4 w2 a ap s rest v).heap.size = w2.heap.size + 2 := by unfold spl4; simp [hsz3]
  have hL4 : Bk (spl4 w2 a ap s rest v) w2.heap.size 94 #[.string s, .iface 3 (.int .i64 v)] := by
    have := (Bk.new (spl3 w2 a ap) 94 #[.string s, .iface 3 (.int .i64 v)]).alloc (.cells #[.pointer (some ⟨w2.heap.size, 0, none⟩), .string rest, .slice none 0 0] 85)
    rw [hsz3] at this
    exact this
  have hN4 : Bk (spl4 w2 a ap s rest v) (w2.heap.size + 1) 85 #[.pointer (some ⟨w2.heap.size, 0, none⟩), .string rest, .slice none 0 0] := by
    have := Bk.new ((spl3 w2 a ap).alloc (.cells #[.string s, .iface 3 (.int .i64 v)] 94)) 85 #[.pointer (some ⟨w2.heap.size, 0, none⟩), .string rest, .slice none 0 0]
    rw [World.size_alloc, hsz3] at this
    exact this
  have ha4 : Bk (spl4 w2 a ap s rest v) a.id 85 #[lptr a.lf, .string ap, a.ev] := ((hM.old.1.blk.set_ 1 (.string ap)).alloc _).alloc _
  have hC4 : NdOk (spl4 w2 a ap s rest v) C none pre ev1 [(d, a.id)] := hM.child.of fun b hb => hm4.block b (hM.child.lt b hb) fun hi => by
    have e : b = a.id := by simpa using hi
    subst e
    simp only [ownFoot, lfoot, List.nil_append, List.mem_cons, Option.mem_toList] at hb
    rcases hb with hb | hb
    · exact g2 hb
    · exact heva hb
  obtain ⟨_, ev2, hN6, hm6, he⟩ := hA hC4
  have hF : ∀ b ∈ C :: ev1.ownBlock.toList, w0.heap.size ≤ b ∧ b < w2.heap.size := fun b hb => by
    simp only [List.mem_cons, Option.mem_toList] at hb
    rcases hb with rfl | hb
    · exact ⟨hnew, hClt⟩
    · exact ⟨hM.row b hb, own_lt hM.child.row hb⟩
  have hev2 : ∀ b, ev2.ownBlock = some b → w0.heap.size ≤ b ∧ b ≠ w2.heap.size ∧ b ≠ w2.heap.size + 1 := fun b hb => by
    rcases he b hb with h | h
    · have := hM.row b h
      have := own_lt hM.child.row h
      exact ⟨by omega, by omega, by omega⟩
    · exact ⟨by omega, by omega, by omega⟩
  have hevC2 : ev2.ownBlock ≠ some C := own_ne_bk hN6.row hN6.blk (by decide)
  refine ⟨hC4, ev2, ?_, ?_, ⟨?_, At.ok_add ?_ ?_⟩, ?_, fun b hb => ?_, ?_⟩
  · have h1 : NdOk (spl4 w2 a ap s rest v) sub.id sub.lf sub.pre sub.ev (sub.kids.prs.set (ix sub.kids.prs c) (c, C)) := hM.nd.of fun b hb => hm4.block b (hM.nd.lt b hb) fun hi => by
      have e : b = a.id := by simpa using hi
      subst e
      exact g4 a.id (by simp [An.foot, ownFoot]) hb
    refine h1.of fun b hb => hm6.block b (h1.lt b hb) fun hi => ?_
    have h2 := (hF b hi).1
    have := An.lt hM.ok0 b (by simp only [An.foot, List.mem_append]; exact Or.inl hb)
    omega
  · refine ((hM.turned.mono (G := a.id :: sub.ev.ownBlock.toList) (by simp +contextual)).trans (hm4.mono (G := a.id :: sub.ev.ownBlock.toList) (by simp)) fun b hb => Or.inl hb).trans hm6 fun b hb => Or.inr (hF b hb).1
  · show NdOk w6 C none pre ev2 ((At.cons a.id d a.lf ap a.ev a.kids .nil).add b0 _).prs
    rw [At.prs_add]; exact hN6
  · have h1 := old_ok (C := C) hM.old g5 (hm4.mono (G := [a.id, C]) (by simp)) hCf ha4
    have h2 := An.ok_of h1 (w' := w6) fun b hb => hm6.block b (An.lt h1 b hb) fun hi => by
      have h3 := g3 b hb
      have := (hF b hi).1
      omega
    exact ⟨h2.1, h2.2, trivial⟩
  · refine ⟨⟨hN4.of (hm6.block _ (by omega) fun hi => ?_), hL4.of (hm6.block _ (by omega) fun hi => ?_), ⟨rfl, Or.inl ⟨rfl, rfl⟩⟩⟩, trivial⟩
    · have := (hF _ hi).2; omega
    · have := (hF _ hi).2; omega
  · show (ownFoot C none ev2 ++ (At.add _ _ _).foot).Perm _
    refine (List.Perm.append_left _ (At.foot_add _ _ _)).trans ?_
    simp only [ownFoot, lfoot, An.foot, At.foot, List.append_nil, List.nil_append, List.cons_append, List.append_assoc, Value.ownBlock, Option.toList_none]
    refine List.Perm.cons _ ?_
    exact (List.perm_append_comm_assoc ev2.ownBlock.toList [w2.heap.size + 1, w2.heap.size] _)
  · simp only [List.mem_cons, Option.mem_toList] at hb
    rcases hb with rfl | rfl | rfl | hb
    · exact hnew
    · omega
    · omega
    · exact (hev2 b hb).1
  · refine List.nodup_cons.2 ⟨fun hi => ?_, List.nodup_cons.2 ⟨fun hi => ?_, List.nodup_cons.2 ⟨fun hi => ?_, by cases ev2.ownBlock <;> simp⟩⟩⟩
    · simp only [List.mem_cons, Option.mem_toList] at hi
      rcases hi with h | h | hi
      · omega
      · omega
      · exact hevC2 hi
    · simp only [List.mem_cons, Option.mem_toList] at hi
      rcases hi with h | hi
      · omega
      · exact (hev2 _ hi).2.2 rfl
    · simp only [Option.mem_toList] at hi
      exact (hev2 _ hi).2.1 rfl

theorem ba_take (s : ByteArray) (k : Nat) : (s.extract 0 k).data.toList = s.data.toList.take k := by
  rw [Lib.extract_data, List.drop_zero, Nat.sub_zero]
theorem ba_headD (s : ByteArray) (k : Nat) (h : k < s.size) : (s.data.toList.drop k).headD 0 = s[k] := by
  have := ba_get s k h
  rw [List.headD_eq_head?_getD, List.head?_drop, this]; rfl
theorem er_leaf {a : An} {C L k : Nat} {c : UInt8} {S' : Bs} {S s : ByteArray} {v : Int} {ev1 : Value} (hk : lcp (c :: S') a.er.pre = k) (hS : S.data.toList = c :: S') (hka : k < a.pre.size) (hr : S.size = k) :
    An.er ⟨C, some ⟨L, s, v⟩, S.extract 0 k, ev1, .cons a.id a.pre[k] a.lf (a.pre.extract k a.pre.size) a.ev a.kids .nil⟩ = a.er.split (c :: S') s.data.toList v := by
  unfold Nd.split
  have h1 : (c :: S').drop k = [] := by rw [← hS]; exact List.drop_of_length_le (by rw [ba_len]; omega)
  have h2 : (a.er.pre.drop k).headD 0 = a.pre[k] := ba_headD a.pre k hka
  rw [hk, h1, if_pos rfl, h2, ← hS, ← ba_take]
  show Nd.mk _ _ (Ed.cons _ _ (a.pre.extract k a.pre.size).data.toList _ _) = _
  rw [ba_drop]; rfl
theorem er_kid {a : An} {C L N k : Nat} {c b0 : UInt8} {S' : Bs} {S s : ByteArray} {v : Int} {ev2 : Value} (hk : lcp (c :: S') a.er.pre = k) (hS : S.data.toList = c :: S') (hka : k < a.pre.size) (hr : k < S.size) (hb : b0 = S[k]) :
    An.er ⟨C, none, S.extract 0 k, ev2, (At.cons a.id a.pre[k] a.lf (a.pre.extract k a.pre.size) a.ev a.kids .nil).add b0 ⟨N, some ⟨L, s, v⟩, S.extract k S.size, .slice none 0 0, .nil⟩⟩ = a.er.split (c :: S') s.data.toList v := by
  subst hb
  unfold Nd.split
  have h1 : (c :: S').drop k ≠ [] := by
    intro e
    have := congrArg List.length e
    rw [← hS, List.length_drop, ba_len] at this
    simp at this; omega
  have h2 : (a.er.pre.drop k).headD 0 = a.pre[k] := ba_headD a.pre k hka
  have h3 : ((c :: S').drop k).headD 0 = S[k] := by rw [← hS]; exact ba_headD S k hr
  rw [hk, if_neg h1, h2, h3, ← hS, ← ba_take]
  show Nd.mk _ _ (At.er _) = _
  rw [At.er_add]
  show Nd.mk _ _ (Ed.add (Ed.cons _ _ (a.pre.extract k a.pre.size).data.toList _ _) _ (Nd.mk _ (S.extract k S.size).data.toList _)) = _
  rw [ba_drop, ba_drop]; rfl

theorem Mid.kid0 {w0 w2 : World} {sub a : An} {c d : UInt8} {C : Nat} {pre ap s rest : ByteArray} {ev1 : Value} {v : Int} (hM : Mid w0 w2 sub a c d C pre ev1) (hn : sub.foot.Nodup) (hf : sub.kids.find c = some a) :
    NdOk (spl4 w2 a ap s rest v) C none pre ev1 [(d, a.id)] := by
  obtain ⟨g1, g2, g3, g4, g5⟩ := kid_parts hM hn hf
  have heva : ev1.ownBlock ≠ some a.id := own_ne_bk hM.child.row hM.old.1.blk (by decide)
  have hm4 : Mut w2 (spl4 w2 a ap s rest v) [a.id] := (((Mut.refl w2 [a.id]).setCell (p := ⟨a.id, 1, none⟩) (Or.inl (by simp)) _).alloc _).alloc _
  exact hM.child.of fun b hb => hm4.block b (hM.child.lt b hb) fun hi => by
    have e : b = a.id := by simpa using hi
    subst e
    simp only [ownFoot, lfoot, List.nil_append, List.mem_cons, Option.mem_toList] at hb
    rcases hb with hb | hb
    · exact g2 hb
    · exact heva hb
theorem ba_ext0 (S : ByteArray) (k : Nat) (h : k < S.size) (h2 : 0 < (S.extract k S.size).size) : (S.extract k S.size)[0] = S[k] := by
  have h3 := ba_get (S.extract k S.size) 0 h2
  have h4 := ba_get S k h
  rw [ba_drop, List.getElem?_drop, Nat.add_zero, h4] at h3
  injection h3 with h3
  exact h3.symm

end Go.Proofs.Ytaidaohkbbdimaa

namespace Go.Proofs.Ytaidaohkbbdimaa
open Go.RowKit

/-- What Insert answers and leaves. -/
def InsPost (w : World) (t : Nat) (n : An) (s : Bs) (v : Int) (e : Ending) (w' : World) : Prop :=
  e = .returned (.tuple #[iv (n.er.get s), .bool (n.er.get s).isSome]) ∧ Insd w t n s v w'

theorem iv_none : iv none = .nilIface := rfl
theorem iv_some (u : Int) : iv (some u) = .iface 3 (.int .i64 u) := rfl

set_option maxHeartbeats 4000000 in
set_option maxRecDepth 100000 in
theorem insert_any {w : World} {t : Nat} {n : An} (s : ByteArray) (v : Int) (h : Tr w t n) (hs : s.size ≤ 1000) (hlen : n.er.ents.length ≤ 100000) :
    Calls Try.prog 58 #[.pointer (some ⟨t, 0, none⟩), .string s, .iface 3 (.int .i64 v)] w (InsPost w t n s.data.toList v) := by
  have ht := h.blk.lt
  have c0 : w.cell? ⟨t, 0, none⟩ = some (.pointer (some ⟨n.id, 0, none⟩)) := by rw [h.blk.cell]; rfl
  have hput := len_put2 (k := s.data.toList) (v := v) (Nd.srt h.wf)
  rw [← Nd.get_ok h.wf] at hput
  have HP := Lib.hid hput
  have HT := Lib.hid h
  clear h hput
  go_enter Try.func58, Try.ntmps58
  go_wp2_with fail
  go_loopg [8, 9, 10] (s.size) (fun g v8 v9 v10 wr => ∃ (sub : An) (p : Bs) (S : ByteArray), v8 = v8 ∧ v9 = .pointer (some ⟨sub.id, 0, none⟩) ∧ v10 = .string S ∧ S.size ≤ g ∧ S.size ≤ s.size ∧ Below w.heap.size w wr ∧ Hid (Dn w n sub s.data.toList p S.data.toList) ∧ Hid (Ist n sub s.data.toList S.data.toList))
  case atStart => exact ⟨n, [], s, rfl, rfl, rfl, Nat.le_refl _, Nat.le_refl _, Below.refl _ _, Dn.refl HT.out _, Ist.start _ _⟩
  case round =>
    obtain ⟨sub, p, S, -, rfl, rfl, hg, hSs, hb, HD, HI⟩ := hrel
    have hN := (HD.out.bel hb).ok.1
    have k0 : wr.cell? ⟨sub.id, 0, none⟩ = some (lptr sub.lf) := by rw [hN.blk.cell]; rfl
    have hTr := HT.out.bel hb
    have t1 : wr.cell? ⟨t, 1, none⟩ = some (.int .i64 n.er.ents.length) := by rw [hTr.blk.cell]; rfl
    have tf : wr.frozen? ⟨t, 1, none⟩ = false := hTr.blk.frozen 1
    by_cases h0 : S.size = 0
    · have hSn := ba_nil S h0
      have hI := isLeaf_any (lf := sub.lf) k0
      have hget : n.er.get s.data.toList = sub.lf.map (·.val) := by
        rw [HD.out.get, hSn]
        show (if ([] : Bs) = [] then _ else _) = _
        rw [if_pos rfl]; exact lf_val sub.lf
      cases hlf : sub.lf with
      | some l =>
        rw [hlf] at hI k0 hget
        have hL : Bk wr l.id 94 #[.string l.key, boxv l.val] := by have := hN.leaf; rw [hlf] at this; exact this
        have k0' : wr.cell? ⟨sub.id, 0, none⟩ = some (.pointer (some ⟨l.id, 0, none⟩)) := k0
        have k1 : wr.cell? ⟨l.id, 1, none⟩ = some (.iface 3 (.int .i64 l.val)) := by rw [hL.cell]; rfl
        have f1 : wr.frozen? ⟨l.id, 1, none⟩ = false := hL.frozen 1
        have hkey : l.key.data.toList = s.data.toList := by
          have h1 := HD.out.wf.1 (lrow l) (by show sub.lf.map lrow = _; rw [hlf]; rfl)
          have h2 := HD.out.key
          rw [hSn, List.append_nil] at h2
          exact h1.trans h2.symm
        have fin : Insd w t n s.data.toList v (wr.setCell ⟨l.id, 1, none⟩ (.iface 3 (.int .i64 v))) := by
          obtain ⟨R, K, E, hC, hE⟩ := HI.out
          have hsub := (HD.out.bel hb).ok
          have hn := hC.nodup HT.out.nodup
          have hm : Mut wr (wr.setCell ⟨l.id, 1, none⟩ (.iface 3 (.int .i64 v))) [l.id] := (Mut.refl wr _).setCell (Or.inl (by simp)) _
          have hT := turn_val (v := v) hsub hn hlf hm (hL.set_ 1 _)
          have hlt : l.id ≠ t := hL.ne_ hTr.blk (by decide)
          refine Insd.of HT.out (Mut.of_below hb) hC hT (Mut.refl _ _) ?_ ?_ (by rw [ba_len]; exact hs)
          · rw [HP.out, hget]
            exact hTr.blk.far (p := ⟨l.id, 1, none⟩) (Ne.symm hlt) _
          · rw [hE, hSn]
            congr 1
            show Nd.mk (some (lrow { l with val := v })) _ _ = Nd.mk (some (s.data.toList, v)) _ _
            rw [← hkey]; rfl
        have HF := Lib.hid fin
        have HG := Lib.hid hget
        clear fin hget hkey hL hlf k0 hN hTr hSn
        go_wp2_with fail
        refine hI.mono ?_
        rintro e w' ⟨rfl, hw⟩
        subst w'
        go_wp2_with fail
        go_ret2
        exact ⟨by rw [HG.out]; rfl, HF.out⟩
      | none =>
        rw [hlf] at hI k0 hget
        have k0' : wr.cell? ⟨sub.id, 0, none⟩ = some (.pointer none) := k0
        have f0 : wr.frozen? ⟨sub.id, 0, none⟩ = false := hN.blk.frozen 0
        have htid : ¬ t = sub.id := hTr.blk.ne_ hN.blk (by decide)
        have htid2 : ¬ sub.id = t := fun e => htid e.symm
        have hidw : sub.id < wr.heap.size := hN.blk.lt
        have htw : t < wr.heap.size := hTr.blk.lt
        have hw1 : IntKind.i64.wrap ((n.er.ents.length : Int) + 1) = (n.er.ents.length : Int) + 1 := IntWalk.i64_in _ (by omega)
        have HG := Lib.hid hget
        have HF := Lib.hid hlf
        have HN := Lib.hid hN
        have HTr := Lib.hid hTr
        clear hget hlf k0 hN hTr hSn
        go_wp2_with fail
        refine hI.mono ?_
        rintro e w' ⟨rfl, hw⟩
        subst w'
        go_wp2_with fail
        go_ret2
        refine ⟨by rw [HG.out]; rfl, Insd.leaf HT.out hb (HD.out.bel hb).ok (ba_nil S h0 ▸ HI.out) HF.out hs ?_⟩
        rw [HP.out, HG.out]; rfl
    · have h0' : ((S.size : Int) == 0) = false := by rw [beq_eq_false_iff_ne]; omega
      have h0p : 0 < S.size := by omega
      obtain ⟨S', hS⟩ := ba_head S h0p
      rw [hS] at HD HI
      have hE := getEdge_any S[0] hN (At.asc HD.out.wf.2)
      rw [At.prs_find] at hE
      have hw1 : IntKind.i64.wrap ((n.er.ents.length : Int) + 1) = (n.er.ents.length : Int) + 1 := IntWalk.i64_in _ (by omega)
      have hidw : sub.id < wr.heap.size := hN.blk.lt
      have htw : t < wr.heap.size := hTr.blk.lt
      have htid : ¬ t = sub.id := hTr.blk.ne_ hN.blk (by decide)
      have htid2 : ¬ sub.id = t := fun e => htid e.symm
      cases hf : sub.kids.find S[0] with
      | none =>
        rw [hf] at hE
        have HG := Lib.hid (HD.out.get_none hf)
        have HTr := Lib.hid hTr
        have HF := Lib.hid hf
        clear hf hN k0 hTr
        go_wp2_with fail
        refine hE.mono ?_
        rintro e w' ⟨rfl, hb'⟩
        simp only [Option.map_none, optp]
        go_wp2_with fail
        have hok2 := (An.bel (An.bel (HD.out.bel hb).ok hb') (newKid_below w' s S S[0] v)).1
        have hfn : prFind sub.kids.prs S[0] = none := by rw [At.prs_find, HF.out]; rfl
        refine (addEdge_any (w := newKid w' s S S[0] v) (cid := w'.heap.size + 1) (c := S[0]) hok2 (At.asc HD.out.wf.2) hfn).mono ?_
        intro e w2 hA
        obtain ⟨t2, f2, hfin⟩ := Insd.add HT.out hb hb' HD.out HI.out hS HF.out hs (by rw [HP.out, HG.out]; rfl) hA
        obtain ⟨rfl, _⟩ := hA
        have HFI := Lib.hid hfin
        clear hok2 hfn hfin t1 tf
        go_wp2_with fail
        go_ret2
        exact ⟨by rw [HG.out]; rfl, HFI.out⟩
      | some a =>
        rw [hf] at hE
        obtain ⟨ha, ⟨t0, hpre⟩, _, hdep, _⟩ := (HD.out.bel hb).kid hf
        have hpl : a.pre.size ≤ 1000 := by
          have := hdep.1
          have h2 : a.er.pre.length = a.pre.size := ba_len a.pre
          omega
        have hp0 : 0 < a.pre.size := by rw [← ba_len, show a.pre.data.toList = _ from hpre]; simp
        have hP := fun w => longestPrefix_any S a.pre w (by omega) hpl
        have hk1 : lcp S.data.toList a.pre.data.toList ≤ S.size := by rw [← ba_len S]; exact lcp_le_l _ _
        have hk2 : lcp S.data.toList a.pre.data.toList ≤ a.pre.size := by rw [← ba_len a.pre]; exact lcp_le_r _ _
        by_cases hk : lcp S.data.toList a.pre.data.toList = a.pre.size
        · have hpx : a.er.pre.isPrefixOf (S[0] :: S') = true := by
            rw [← lcp_all, ← hS]
            exact hk.trans (ba_len a.pre).symm
          have HD2 := Lib.hid (HD.out.step hf hpx)
          have HI2 := Lib.hid (HI.out.step HD.out.wf hf (lcp_all.2 hpx))
          have hdr : (S[0] :: S').drop a.er.pre.length = (S.extract a.pre.size S.size).data.toList := by
            rw [ba_drop, ← hS]; show List.drop a.pre.data.toList.length _ = _; rw [ba_len]
          rw [hdr] at HD2 HI2
          rw [hk] at hP hk1
          clear hf hN k0 hS hpre hdr hpx hTr hk hk2 hdep
          go_wp2_with fail
          refine hE.mono ?_
          rintro e w' ⟨rfl, hb'⟩
          have k1 : w'.cell? ⟨a.id, 1, none⟩ = some (.string a.pre) := by rw [(An.bel ha hb').1.blk.cell]; rfl
          simp only [Option.map_some, optp]
          go_wp2_with fail
          refine (hP w').mono ?_
          rintro e w2 ⟨rfl, q, rfl⟩
          go_wp2_with fail
          go_roundg (S.size - a.pre.size)
          case measure => omega
          case rel => exact ⟨a, _, S.extract a.pre.size S.size, (by trivial), rfl, rfl, by simp, by simp; omega, below_drewN (hb.trans (hb'.mono hb.size)) _, HD2, HI2⟩
        · have hpre0 : a.pre.data.toList = S[0] :: t0 := hpre
          have hS0 := hS
          have HTr := Lib.hid hTr
          have HF := Lib.hid hf
          have HD3 := Lib.hid hdep
          have HG : Hid (n.er.get s.data.toList = none) := by
            refine Lib.hid (HD.out.get_off hf ?_)
            rw [Bool.eq_false_iff]
            intro hpx
            apply hk
            rw [← lcp_all, ← hS] at hpx
            exact hpx.trans (ba_len a.pre)
          have hkl : lcp (S[0] :: S') a.er.pre ≠ a.er.pre.length := by
            intro e
            apply hk
            rw [hS]; exact e.trans (ba_len a.pre)
          have HKL := Lib.hid hkl
          have hker : lcp (S[0] :: S') a.er.pre = lcp S.data.toList a.pre.data.toList := by rw [hS]; rfl
          have HKE := Lib.hid hker
          have hk0 : 0 < lcp S.data.toList a.pre.data.toList := by
            rw [hS, hpre0]; simp [lcp]
          have hkne : ((lcp S.data.toList a.pre.data.toList : Int) == (a.pre.size : Int)) = false := by rw [beq_eq_false_iff_ne]; omega
          have hklt : lcp S.data.toList a.pre.data.toList < a.pre.size := by omega
          have HPR := Lib.hid hpre0
          have hstop : ∀ (h1 : lcp S.data.toList a.pre.data.toList < S.size) (h2 : lcp S.data.toList a.pre.data.toList < a.pre.size), S[lcp S.data.toList a.pre.data.toList] ≠ a.pre[lcp S.data.toList a.pre.data.toList] :=
            fun h1 h2 => lcp_stop S.data.toList a.pre.data.toList (by rw [ba_len]; exact h1) (by rw [ba_len]; exact h2)
          have HST := Lib.hid hstop
          have HSS := Lib.hid hS
          clear hf hN k0 hS hS0 hpre hpre0 hTr hdep hkl hker hk hstop
          generalize lcp S.data.toList a.pre.data.toList = k at *
          go_wp2_with fail
          refine hE.mono ?_
          rintro e w' ⟨rfl, hb'⟩
          have k1 : w'.cell? ⟨a.id, 1, none⟩ = some (.string a.pre) := by rw [(An.bel ha hb').1.blk.cell]; rfl
          have t1' : w'.cell? ⟨t, 1, none⟩ = some (.int .i64 n.er.ents.length) := by rw [(HTr.out.bel hb').blk.cell]; rfl
          have tf' : w'.frozen? ⟨t, 1, none⟩ = false := (HTr.out.bel hb').blk.frozen 1
          have htw' : t < w'.heap.size := Nat.lt_of_lt_of_le htw hb'.size
          simp only [Option.map_some, optp]
          go_wp2_with fail
          refine (hP w').mono ?_
          rintro e w2 ⟨rfl, q, rfl⟩
          go_wp2_with fail
          have hsubw : sub.ok (w'.drewN q) := ((HD.out.bel hb).bel (below_drewN hb' q)).ok
          have hnn : sub.foot.Nodup := by obtain ⟨R, K, E, hC, _⟩ := HI.out; exact hC.nodup HT.out.nodup
          have htf : t ∉ sub.foot := fun hi => (An.kind hsubw t hi).no (HTr.out.bel (below_drewN hb' q)).blk (by decide) (by decide) (by decide)
          have hsub0 : sub.ok (spl0 (w'.drewN q) t ((n.er.ents.length : Int) + 1)) := An.keep hsubw (spl0_mut _ _ _) fun b hbb hi => by
            have e : b = t := by simpa using hi
            subst e; exact htf hbb
          have hs0 : (spl0 (w'.drewN q) t ((n.er.ents.length : Int) + 1)).heap.size = w'.heap.size := spl0_size _ _ _
          have hNA := (An.bel hsub0 ((Below.refl _ _).alloc (Nat.le_refl _) (.cells #[.pointer none, .string (S.extract 0 k), .slice none 0 0] 85))).1
          refine (updateEdge_any (nid := w'.heap.size) (old := a.id) S[0] hNA (At.asc HD.out.wf.2) (by rw [At.prs_find, HF.out]; rfl)).mono ?_
          intro e w1 hU
          have hU' := hU
          rw [← hs0] at hU'
          obtain ⟨hC1, ha1⟩ := Mid.first hsub0 hnn HF.out hU'
          rw [hs0] at hC1
          obtain ⟨rfl, _⟩ := hU
          have k2 : w1.cell? ⟨a.id, 1, none⟩ = some (.string a.pre) := by rw [ha1.1.blk.cell]; rfl
          have HU := Lib.hid hU'
          have HC1 := Lib.hid hC1
          have HS0 := Lib.hid hsub0
          have HNN := Lib.hid hnn
          clear hU' hC1 hNA hsub0 hsubw htf hnn ha1
          go_wp2_with fail
          refine (addEdge_any (cid := a.id) (c := a.pre[k]) HC1.out (by exact List.Pairwise.nil) rfl).mono ?_
          intro e w2 hA
          have hA' := hA
          rw [← hs0] at hA'
          obtain ⟨ev1, hM⟩ := Mid.of HS0.out HNN.out HF.out HU.out hA'
          rw [hs0] at hM
          obtain ⟨rfl, _⟩ := hA
          obtain ⟨g1, g2, g3, g4, g5⟩ := kid_parts hM HNN.out HF.out
          have g6 : ¬ w'.heap.size = a.id := fun e => g2 e.symm
          have k3 : w2.cell? ⟨a.id, 1, none⟩ = some (.string a.pre) := by rw [hM.old.1.blk.cell]; rfl
          have f3 : w2.frozen? ⟨a.id, 1, none⟩ = false := hM.old.1.blk.frozen 1
          have k4 : w2.cell? ⟨w'.heap.size, 0, none⟩ = some (.pointer none) := by rw [hM.child.blk.cell]; rfl
          have f4 : w2.frozen? ⟨w'.heap.size, 0, none⟩ = false := hM.child.blk.frozen 0
          have l3 : a.id < w2.heap.size := hM.old.1.blk.lt
          have l4 : w'.heap.size < w2.heap.size := hM.child.blk.lt
          have HM := Lib.hid hM
          clear hA' hM g3 g4 g5 k2 k1 t1 tf t1' tf'
          by_cases hr : S.size = k
          · have hr0 : S.size - k = 0 := by omega
            go_wp2_with fail
            go_ret2
            have hM := HM.out
            have hm5 : Mut w2 (((w2.setCell ⟨a.id, 1, none⟩ (.string (a.pre.extract k a.pre.size))).setCell ⟨w'.heap.size, 0, none⟩ (.pointer (some ⟨w2.heap.size, 0, none⟩))).alloc (.cells #[.string s, .iface 3 (.int .i64 v)] 94)) [a.id, w'.heap.size] :=
              (((Mut.refl w2 _).setCell (Or.inl (by simp)) _).setCell (Or.inl (by simp)) _).alloc _
            have hl5 : ((w2.setCell ⟨a.id, 1, none⟩ (.string (a.pre.extract k a.pre.size))).setCell ⟨w'.heap.size, 0, none⟩ (.pointer (some ⟨w2.heap.size, 0, none⟩))).heap.size = w2.heap.size := by rw [World.size_setCell, World.size_setCell]
            have hb5 := Bk.new ((w2.setCell ⟨a.id, 1, none⟩ (.string (a.pre.extract k a.pre.size))).setCell ⟨w'.heap.size, 0, none⟩ (.pointer (some ⟨w2.heap.size, 0, none⟩))) 94 #[.string s, .iface 3 (.int .i64 v)]
            rw [hl5] at hb5
            have hD5 := Mid.leaf hM HNN.out HF.out hm5 (Nat.le_refl _) (((hM.child.blk.far (p := ⟨a.id, 1, none⟩) g6 _).set_ 0 _).alloc _) (((hM.old.1.blk.set_ 1 (.string (a.pre.extract k a.pre.size))).far (p := ⟨w'.heap.size, 0, none⟩) g2 _).alloc _) hb5
            exact ⟨by rw [HG.out]; rfl, Insd.split HT.out hb hb' HD.out HI.out HF.out hs (by rw [HP.out, HG.out]; rfl) HKL.out hD5.nd hD5.turned hD5.ok hD5.foot (fun b hbb => by have := hD5.new b hbb; rw [hs0] at this; exact this) hD5.nodup (er_leaf HKE.out HSS.out hklt hr)⟩
          · have hr0 : ¬ S.size - k = 0 := by omega
            have hr1 : ((((S.size - k : Nat)) : Int) == 0) = false := by rw [beq_eq_false_iff_ne]; omega
            go_wp2_with fail
            have hkS : k < S.size := by omega
            have hex : 0 < (S.extract k S.size).size := by simp; omega
            have hb0 : (S.extract k S.size)[0] = S[k] := ba_ext0 S k hkS hex
            have hC4 := Mid.kid0 (ap := a.pre.extract k a.pre.size) (s := s) (rest := S.extract k S.size) (v := v) HM.out HNN.out HF.out
            have hpf : prFind [(a.pre[k], a.id)] (S.extract k S.size)[0] = none := by
              have h2 := HST.out hkS hklt
              rw [hb0]
              simp [prFind, Ne.symm h2]
            refine (addEdge_any (cid := w2.heap.size + 1) (c := (S.extract k S.size)[0]) hC4 (by exact List.pairwise_singleton _ _) hpf).mono ?_
            intro e w6 hA6
            obtain ⟨_, ev2, hD6⟩ := Mid.kid HM.out HNN.out HF.out (fun _ => hA6)
            obtain ⟨rfl, _⟩ := hA6
            have HD6 := Lib.hid hD6
            have HB0 := Lib.hid hb0
            clear hD6 hC4 hpf hb0
            go_wp2_with fail
            go_ret2
            exact ⟨by rw [HG.out]; rfl, Insd.split HT.out hb hb' HD.out HI.out HF.out hs (by rw [HP.out, HG.out]; rfl) HKL.out HD6.out.nd HD6.out.turned HD6.out.ok HD6.out.foot (fun b hbb => by have := HD6.out.new b hbb; rw [hs0] at this; exact this) HD6.out.nodup (er_kid HKE.out HSS.out hklt hkS HB0.out)⟩

end Go.Proofs.Ytaidaohkbbdimaa
