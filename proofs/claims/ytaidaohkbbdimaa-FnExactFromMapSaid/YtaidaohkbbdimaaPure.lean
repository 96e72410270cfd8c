/-
  The plain mathematics of a tree of texts: keys as lists of bytes, rows sorted by their keys, the operations on sorted lists of rows and on trees; no program in sight.
  The plain mathematics of a tree of texts, part two: insertion, search, the entries above and under a text, the least and the greatest entry.
  The plain mathematics of a tree of texts, part three: search, the entries above and under a text, the least and the greatest entry, deletions.
  The plain mathematics of a tree of texts, part four: deletions of a key and under a text.
  The plain mathematics of a tree of texts, part five: lists of operations, and what the laws say of them.
  The plain mathematics of a tree of texts, part six: the operations said by the child that a label finds, as the code goes.
  The plain mathematics of a tree of texts, part seven: no path of the tree is longer than M.
  The plain mathematics of a tree of texts, part eight: what a walk meets that may be ended.
-/
import GoSem.Op.String
namespace Go.Proofs.Ytaidaohkbbdimaa

abbrev Bs := List UInt8
abbrev Rw := Bs × Int

/-! ### The order of keys -/
def Kl (a b : Bs) : Prop := Op.bytesLess a b = true

theorem bl_nil_r (a : Bs) : Op.bytesLess a [] = false := by cases a <;> rfl
theorem bl_nil_l (b : UInt8) (y : Bs) : Op.bytesLess [] (b :: y) = true := rfl
theorem bl_cons (a b : UInt8) (x y : Bs) : Op.bytesLess (a :: x) (b :: y) = (decide (a < b) || (a == b && Op.bytesLess x y)) := rfl

theorem bl_irrefl (a : Bs) : Op.bytesLess a a = false := by
  induction a with
  | nil => rfl
  | cons a x ih => rw [bl_cons, ih]; simp

theorem bl_app (p u v : Bs) : Op.bytesLess (p ++ u) (p ++ v) = Op.bytesLess u v := by
  induction p with
  | nil => rfl
  | cons a x ih => rw [List.cons_append, List.cons_append, bl_cons, ih]; simp

theorem bl_trans : ∀ {a b c : Bs}, Kl a b → Kl b c → Kl a c
  | a, b, [], _, h => by unfold Kl at h; rw [bl_nil_r] at h; cases h
  | [], _, _ :: _, _, _ => rfl
  | _ :: _, [], _ :: _, h, _ => by unfold Kl at h; rw [bl_nil_r] at h; cases h
  | a :: x, b :: y, c :: z, h, k => by
    unfold Kl at *
    rw [bl_cons] at *
    simp only [Bool.or_eq_true, decide_eq_true_eq, Bool.and_eq_true, beq_iff_eq] at *
    rcases h with h | ⟨rfl, h⟩
    · rcases k with k | ⟨rfl, k⟩
      · exact Or.inl (UInt8.lt_trans h k)
      · exact Or.inl h
    · rcases k with k | ⟨rfl, k⟩
      · exact Or.inl k
      · exact Or.inr ⟨rfl, bl_trans (a := x) (b := y) (c := z) h k⟩

theorem bl_tri : ∀ (a b : Bs), Op.bytesLess a b = false → a ≠ b → Op.bytesLess b a = true
  | [], [], _, h => absurd rfl h
  | [], _ :: _, h, _ => by rw [bl_nil_l] at h; cases h
  | _ :: _, [], _, _ => rfl
  | a :: x, b :: y, h, n => by
    rw [bl_cons] at h ⊢
    simp only [Bool.or_eq_false_iff, decide_eq_false_iff_not, Bool.and_eq_false_imp, beq_iff_eq, Bool.or_eq_true, decide_eq_true_eq, Bool.and_eq_true] at *
    by_cases e : a = b
    · subst e
      exact Or.inr ⟨rfl, bl_tri x y (h.2 rfl) (fun e => n (by rw [e]))⟩
    · left
      rcases UInt8.lt_or_lt_of_ne e with k | k
      · exact absurd k h.1
      · exact k

theorem Kl.irr {a : Bs} (h : Kl a a) : False := by unfold Kl at h; rw [bl_irrefl] at h; cases h
theorem Kl.ne {a b : Bs} (h : Kl a b) : a ≠ b := fun e => by subst e; exact h.irr
theorem Kl.asymm {a b : Bs} (h : Kl a b) (k : Kl b a) : False := (bl_trans h k).irr
theorem Kl.flip {a b : Bs} (h : Kl a b) : Op.bytesLess b a = false := by
  cases e : Op.bytesLess b a with
  | false => rfl
  | true => exact (h.asymm e).elim
theorem kl_pre (p : Bs) (c : UInt8) (t : Bs) : Kl p (p ++ c :: t) := by
  unfold Kl
  have := bl_app p [] (c :: t)
  rw [List.append_nil] at this
  rw [this]; rfl
theorem kl_lab {c d : UInt8} (h : c < d) (p x y : Bs) : Kl (p ++ c :: x) (p ++ d :: y) := by
  unfold Kl
  rw [bl_app, bl_cons]
  simp [h]

/-! ### Rows sorted by their keys -/
def Srt (l : List Rw) : Prop := l.Pairwise fun a b => Kl a.1 b.1

theorem Srt.nil : Srt [] := List.Pairwise.nil
theorem srt_append {a b : List Rw} : Srt (a ++ b) ↔ Srt a ∧ Srt b ∧ ∀ x ∈ a, ∀ y ∈ b, Kl x.1 y.1 := List.pairwise_append
theorem srt_cons {x : Rw} {l : List Rw} : Srt (x :: l) ↔ (∀ y ∈ l, Kl x.1 y.1) ∧ Srt l := List.pairwise_cons
theorem Srt.filter {l : List Rw} (h : Srt l) (p : Rw → Bool) : Srt (l.filter p) := List.Pairwise.filter p h

/-- Two sorted lists with the same rows are one. -/
theorem srt_ext : ∀ {a b : List Rw}, Srt a → Srt b → (∀ x, x ∈ a ↔ x ∈ b) → a = b
  | [], [], _, _, _ => rfl
  | [], y :: b, _, _, h => absurd ((h y).2 (by simp)) (by simp)
  | x :: a, [], _, _, h => absurd ((h x).1 (by simp)) (by simp)
  | x :: a, y :: b, ha, hb, h => by
    have hx := srt_cons.1 ha
    have hy := srt_cons.1 hb
    have e : x = y := by
      rcases List.mem_cons.1 ((h x).1 (by simp)) with e | e
      · exact e
      · rcases List.mem_cons.1 ((h y).2 (by simp)) with e' | e'
        · exact e'.symm
        · exact ((hy.1 x e).asymm (hx.1 y e')).elim
    subst e
    congr 1
    refine srt_ext hx.2 hy.2 fun z => ⟨fun hz => ?_, fun hz => ?_⟩
    · rcases List.mem_cons.1 ((h z).1 (by simp [hz])) with e | e
      · subst e; exact ((hx.1 z hz).irr).elim
      · exact e
    · rcases List.mem_cons.1 ((h z).2 (by simp [hz])) with e | e
      · subst e; exact ((hy.1 z hz).irr).elim
      · exact e

theorem srt_key {l : List Rw} (h : Srt l) {x y : Rw} (hx : x ∈ l) (hy : y ∈ l) (e : x.1 = y.1) : x = y := by
  induction l with
  | nil => cases hx
  | cons z l ih =>
    have hz := srt_cons.1 h
    rcases List.mem_cons.1 hx with rfl | hx'
    · rcases List.mem_cons.1 hy with rfl | hy'
      · rfl
      · exact (((hz.1 y hy').ne) e).elim
    · rcases List.mem_cons.1 hy with rfl | hy'
      · exact (((hz.1 x hx').ne) e.symm).elim
      · exact ih hz.2 hx' hy'

/-- The row of a key is laid or turned. -/
def put : List Rw → Bs → Int → List Rw
  | [], k, v => [(k, v)]
  | x :: r, k, v => if Op.bytesLess x.1 k then x :: put r k v else if x.1 = k then (k, v) :: r else (k, v) :: x :: r

/-- The value of a key. -/
def look (l : List Rw) (k : Bs) : Option Int := (l.find? fun r => r.1 == k).map (·.2)
/-- All rows but a key's. -/
def drop1 (l : List Rw) (k : Bs) : List Rw := l.filter fun r => !(r.1 == k)
/-- The rows whose keys begin with a text. -/
def und (l : List Rw) (p : Bs) : List Rw := l.filter fun r => p.isPrefixOf r.1
/-- The rows whose keys do not begin with a text. -/
def nund (l : List Rw) (p : Bs) : List Rw := l.filter fun r => !(p.isPrefixOf r.1)
/-- The rows whose keys a text begins with. -/
def abv (l : List Rw) (s : Bs) : List Rw := l.filter fun r => r.1.isPrefixOf s

theorem mem_put : ∀ {l : List Rw} {k : Bs} {v : Int}, Srt l → ∀ {x : Rw}, x ∈ put l k v ↔ x = (k, v) ∨ (x ∈ l ∧ x.1 ≠ k)
  | [], k, v, _, x => by simp [put]
  | y :: r, k, v, h, x => by
    have hy := srt_cons.1 h
    unfold put
    split
    · rename_i hl
      rw [List.mem_cons, mem_put hy.2, List.mem_cons]
      constructor
      · rintro (rfl | h1 | ⟨h1, h2⟩)
        · exact Or.inr ⟨Or.inl rfl, Kl.ne hl⟩
        · exact Or.inl h1
        · exact Or.inr ⟨Or.inr h1, h2⟩
      · rintro (h1 | ⟨rfl | h1, h2⟩)
        · exact Or.inr (Or.inl h1)
        · exact Or.inl rfl
        · exact Or.inr (Or.inr ⟨h1, h2⟩)
    · rename_i hl
      split
      · rename_i he
        subst he
        rw [List.mem_cons, List.mem_cons]
        constructor
        · rintro (h1 | h1)
          · exact Or.inl h1
          · exact Or.inr ⟨Or.inr h1, fun e => (hy.1 x h1).ne e.symm⟩
        · rintro (h1 | ⟨h1 | h1, h2⟩)
          · exact Or.inl h1
          · exact absurd (by rw [h1]) h2
          · exact Or.inr h1
      · rename_i he
        have hk : Kl k y.1 := bl_tri _ _ (by simpa using hl) he
        rw [List.mem_cons]
        constructor
        · rintro (h1 | h1)
          · exact Or.inl h1
          · refine Or.inr ⟨h1, ?_⟩
            rcases List.mem_cons.1 h1 with rfl | h1
            · exact he
            · exact fun e => (bl_trans hk (hy.1 x h1)).ne e.symm
        · rintro (h1 | ⟨h1, _⟩)
          · exact Or.inl h1
          · exact Or.inr h1

theorem srt_put : ∀ {l : List Rw} {k : Bs} {v : Int}, Srt l → Srt (put l k v)
  | [], k, v, _ => by simp [put, Srt]
  | y :: r, k, v, h => by
    have hy := srt_cons.1 h
    unfold put
    split
    · rename_i hl
      refine srt_cons.2 ⟨fun z hz => ?_, srt_put hy.2⟩
      rcases (mem_put hy.2).1 hz with rfl | ⟨hz, _⟩
      · exact hl
      · exact hy.1 z hz
    · rename_i hl
      split
      · rename_i he
        subst he
        exact srt_cons.2 ⟨fun z hz => hy.1 z hz, hy.2⟩
      · rename_i he
        have hk : Kl k y.1 := bl_tri _ _ (by simpa using hl) he
        refine srt_cons.2 ⟨fun z hz => ?_, h⟩
        rcases List.mem_cons.1 hz with rfl | hz
        · exact hk
        · exact bl_trans hk (hy.1 z hz)

theorem put_left : ∀ {a b : List Rw} {k : Bs} {v : Int}, (∀ x ∈ a, Kl x.1 k) → put (a ++ b) k v = a ++ put b k v
  | [], _, _, _, _ => rfl
  | x :: a, b, k, v, h => by
    rw [List.cons_append, put, if_pos (show Op.bytesLess x.1 k = true from h x (by simp)), put_left (fun y hy => h y (by simp [hy]))]
    rfl
theorem put_right : ∀ {a b : List Rw} {k : Bs} {v : Int}, (∀ x ∈ b, Kl k x.1) → put (a ++ b) k v = put a k v ++ b
  | [], [], _, _, _ => rfl
  | [], y :: b, k, v, h => by
    have hy := h y (by simp)
    show put (y :: b) k v = [(k, v)] ++ (y :: b)
    rw [put, if_neg (by rw [hy.flip]; simp), if_neg hy.ne.symm]
    rfl
  | x :: a, b, k, v, h => by
    rw [List.cons_append, put, put]
    split
    · rw [put_right h]; rfl
    · split <;> rfl
theorem put_new {k : Bs} {v : Int} {b : List Rw} (h : ∀ x ∈ b, Kl k x.1) : put b k v = (k, v) :: b := by
  have := put_right (a := []) (v := v) h
  simpa [put] using this
theorem put_same {k : Bs} {u v : Int} {b : List Rw} : put ((k, u) :: b) k v = (k, v) :: b := by
  rw [put, if_neg (by rw [bl_irrefl]; simp), if_pos rfl]

theorem look_mem {l : List Rw} (h : Srt l) {k : Bs} {v : Int} : look l k = some v ↔ (k, v) ∈ l := by
  unfold look
  rw [Option.map_eq_some_iff]
  constructor
  · rintro ⟨⟨a, x⟩, h1, rfl⟩
    have := List.find?_some h1
    simp only [beq_iff_eq] at this
    subst this
    exact List.mem_of_find?_eq_some h1
  · intro hm
    cases e : l.find? (fun r => r.1 == k) with
    | none =>
      have := List.find?_eq_none.1 e (k, v) hm
      simp at this
    | some y =>
      have h1 := List.find?_some e
      simp only [beq_iff_eq] at h1
      have h2 := srt_key h (List.mem_of_find?_eq_some e) hm h1
      exact ⟨y, rfl, by rw [h2]⟩
theorem look_none {l : List Rw} {k : Bs} : look l k = none ↔ ∀ x ∈ l, x.1 ≠ k := by
  unfold look
  rw [Option.map_eq_none_iff, List.find?_eq_none]
  simp
theorem look_append (a b : List Rw) (k : Bs) : look (a ++ b) k = (look a k).or (look b k) := by
  unfold look
  rw [List.find?_append]
  cases List.find? (fun r => r.1 == k) a <;> simp
theorem look_put {l : List Rw} (h : Srt l) (k j : Bs) (v : Int) : look (put l k v) j = if j = k then some v else look l j := by
  split
  · rename_i e
    subst e
    exact (look_mem (srt_put h)).2 ((mem_put h).2 (Or.inl rfl))
  · rename_i e
    cases g : look l j with
    | none =>
      rw [look_none] at g ⊢
      intro x hx
      rcases (mem_put h).1 hx with rfl | ⟨hx, _⟩
      · exact fun e' => e e'.symm
      · exact g x hx
    | some u =>
      rw [look_mem h] at g
      exact (look_mem (srt_put h)).2 ((mem_put h).2 (Or.inr ⟨g, e⟩))

/-! ### Trees -/
/-- A node's edges, in the order of their labels: of each the label, the child's entry (if any), its text, its own edges. -/
inductive Ed where
  | nil : Ed
  | cons (lab : UInt8) (lf : Option Rw) (pre : Bs) (kids : Ed) (rest : Ed) : Ed

structure Nd where
  lf : Option Rw
  pre : Bs
  kids : Ed

namespace Ed
def ents : Ed → List Rw
  | nil => []
  | cons _ lf _ k r => lf.toList ++ (k.ents ++ r.ents)
def labs : Ed → List UInt8
  | nil => []
  | cons c _ _ _ r => c :: r.labs
def size : Ed → Nat
  | nil => 0
  | cons _ _ _ _ r => r.size + 1
/-- The edges below the text path: each text begins with its label, labels ascend, each entry bears its whole key. -/
def wf : Bs → Ed → Prop
  | _, nil => True
  | p, cons c lf pre k r => (∃ t, pre = c :: t) ∧ (∀ x, lf = some x → x.1 = p ++ pre) ∧ wf (p ++ pre) k ∧ wf p r ∧ ∀ d ∈ r.labs, c < d
/-- A child without an entry has two children or more. -/
def cmp : Ed → Prop
  | nil => True
  | cons _ lf _ k r => (lf = none → 2 ≤ k.size) ∧ k.cmp ∧ r.cmp
end Ed

namespace Nd
def ents (n : Nd) : List Rw := n.lf.toList ++ n.kids.ents
/-- p: the whole text of the node, its own among it. -/
def wf (p : Bs) (n : Nd) : Prop := (∀ x, n.lf = some x → x.1 = p) ∧ n.kids.wf p
end Nd

theorem Ed.key_of_mem : ∀ {E : Ed} {p : Bs}, E.wf p → ∀ {x : Rw}, x ∈ E.ents → ∃ c ∈ E.labs, ∃ t, x.1 = p ++ c :: t
  | .nil, _, _, _, h => by cases h
  | .cons c lf pre k r, p, ⟨⟨t, ht⟩, hl, hk, hr, _⟩, x, h => by
    simp only [Ed.ents, List.mem_append] at h
    rcases h with h | h | h
    · have := hl x (by simpa using h)
      exact ⟨c, by simp [Ed.labs], t, by rw [this, ht]⟩
    · obtain ⟨d, _, u, hu⟩ := Ed.key_of_mem hk h
      exact ⟨c, by simp [Ed.labs], t ++ d :: u, by rw [hu, ht]; simp⟩
    · obtain ⟨d, hd, u, hu⟩ := Ed.key_of_mem hr h
      exact ⟨d, by simp [Ed.labs, hd], u, hu⟩

theorem Ed.srt : ∀ {E : Ed} {p : Bs}, E.wf p → Srt E.ents
  | .nil, _, _ => Srt.nil
  | .cons c lf pre k r, p, ⟨⟨t, ht⟩, hl, hk, hr, hlab⟩ => by
    have hL : ∀ x ∈ lf.toList, x.1 = p ++ pre := fun x h => hl x (by simpa using h)
    refine srt_append.2 ⟨?_, srt_append.2 ⟨Ed.srt hk, Ed.srt hr, fun x hx y hy => ?_⟩, fun x hx y hy => ?_⟩
    · cases lf <;> simp [Srt]
    · obtain ⟨d, _, u, hu⟩ := Ed.key_of_mem hk hx
      obtain ⟨e, he, v, hv⟩ := Ed.key_of_mem hr hy
      rw [hu, hv, ht]
      have := kl_lab (hlab e he) p (t ++ d :: u) v
      simpa using this
    · rw [hL x hx]
      rcases List.mem_append.1 hy with hy | hy
      · obtain ⟨d, _, u, hu⟩ := Ed.key_of_mem hk hy
        rw [hu]; exact kl_pre _ _ _
      · obtain ⟨e, he, v, hv⟩ := Ed.key_of_mem hr hy
        rw [hv, ht]; exact kl_lab (hlab e he) p t v

theorem Nd.srt {n : Nd} {p : Bs} (h : n.wf p) : Srt n.ents := by
  refine srt_append.2 ⟨?_, Ed.srt h.2, fun x hx y hy => ?_⟩
  · cases n.lf <;> simp [Srt]
  · obtain ⟨d, _, u, hu⟩ := Ed.key_of_mem h.2 hy
    rw [hu, h.1 x (by simpa using hx)]
    exact kl_pre _ _ _

end Go.Proofs.Ytaidaohkbbdimaa

namespace Go.Proofs.Ytaidaohkbbdimaa

theorem pfx_app (p x y : Bs) : (p ++ x).isPrefixOf (p ++ y) = x.isPrefixOf y := by
  induction p with
  | nil => rfl
  | cons a p ih => simp [ih]
theorem pfx_iff {p s : Bs} : p.isPrefixOf s = true ↔ ∃ u, s = p ++ u := by
  rw [List.isPrefixOf_iff_prefix]
  exact ⟨fun ⟨u, h⟩ => ⟨u, h.symm⟩, fun ⟨u, h⟩ => ⟨u, h.symm⟩⟩
theorem pfx_head {a b : UInt8} {x y : Bs} (h : a ≠ b) : (a :: x).isPrefixOf (b :: y) = false := by simp [List.isPrefixOf, h]
theorem pfx_nil (x : Bs) : ([] : Bs).isPrefixOf x = true := by cases x <;> rfl
theorem pfx_lab {a b : UInt8} (p x y : Bs) (h : a ≠ b) : (p ++ a :: x).isPrefixOf (p ++ b :: y) = false := by rw [pfx_app, pfx_head h]
theorem pfx_long (p : Bs) (a : UInt8) (x : Bs) : (p ++ a :: x).isPrefixOf p = false := by
  have := pfx_app p (a :: x) []
  rw [List.append_nil] at this
  rw [this]; rfl
theorem pfx_self (p x : Bs) : p.isPrefixOf (p ++ x) = true := pfx_iff.2 ⟨x, rfl⟩
theorem lab_ne {a b : UInt8} (p x y : Bs) (h : a ≠ b) : p ++ a :: x ≠ p ++ b :: y := fun e => h (by have := List.append_cancel_left e; injection this)
theorem filter_none {l : List Rw} {f : Rw → Bool} (h : ∀ x ∈ l, f x = false) : l.filter f = [] := by
  rw [List.filter_eq_nil_iff]; intro x hx; rw [h x hx]; simp
theorem filter_all {l : List Rw} {f : Rw → Bool} (h : ∀ x ∈ l, f x = true) : l.filter f = l := List.filter_eq_self.2 h

/-- How far two texts go together. -/
def lcp : Bs → Bs → Nat
  | a :: x, b :: y => if a = b then lcp x y + 1 else 0
  | _, _ => 0
theorem lcp_le_l : ∀ (s t : Bs), lcp s t ≤ s.length
  | [], t => by simp [lcp]
  | a :: x, [] => by simp [lcp]
  | a :: x, b :: y => by
    unfold lcp
    have := lcp_le_l x y
    split <;> simp <;> omega
theorem lcp_le_r : ∀ (s t : Bs), lcp s t ≤ t.length
  | [], t => by simp [lcp]
  | a :: x, [] => by simp [lcp]
  | a :: x, b :: y => by
    unfold lcp
    have := lcp_le_r x y
    split <;> simp <;> omega
theorem lcp_take : ∀ (s t : Bs), s.take (lcp s t) = t.take (lcp s t)
  | [], t => by simp [lcp]
  | a :: x, [] => by simp [lcp]
  | a :: x, b :: y => by
    unfold lcp
    split
    · rename_i h; subst h
      simp [lcp_take x y]
    · simp
theorem lcp_stop : ∀ (s t : Bs) (h1 : lcp s t < s.length) (h2 : lcp s t < t.length), s[lcp s t] ≠ t[lcp s t]
  | [], t, h1, _ => by simp at h1
  | a :: x, [], _, h2 => by simp at h2
  | a :: x, b :: y, h1, h2 => by
    by_cases h : a = b
    · have e : lcp (a :: x) (b :: y) = lcp x y + 1 := by rw [lcp, if_pos h]
      simp only [e, List.getElem_cons_succ]
      simp only [e, List.length_cons] at h1 h2
      exact lcp_stop x y (by omega) (by omega)
    · have e : lcp (a :: x) (b :: y) = 0 := by rw [lcp, if_neg h]
      simp only [e, List.getElem_cons_zero]
      exact h
theorem lcp_all {s t : Bs} : lcp s t = t.length ↔ t.isPrefixOf s = true := by
  rw [pfx_iff]
  constructor
  · intro h
    have := lcp_take s t
    rw [h, List.take_length] at this
    exact ⟨s.drop t.length, by
      have h2 := List.take_append_drop t.length s
      rw [this] at h2; exact h2.symm⟩
  · rintro ⟨u, rfl⟩
    induction t with
    | nil => cases u <;> rfl
    | cons a t ih => simp [lcp, ih]

/-- What a split gives. -/
theorem lcp_parts (s t : Bs) : ∃ q u v, s = q ++ u ∧ t = q ++ v ∧ q = s.take (lcp s t) ∧ u = s.drop (lcp s t) ∧ v = t.drop (lcp s t) ∧ (∀ a u' b v', u = a :: u' → v = b :: v' → a ≠ b) := by
  refine ⟨_, _, _, (List.take_append_drop (lcp s t) s).symm, by rw [lcp_take, List.take_append_drop], rfl, rfl, rfl, ?_⟩
  intro a u' b v' h1 h2
  have l1 : lcp s t < s.length := by
    have := congrArg List.length h1
    simp at this; omega
  have l2 : lcp s t < t.length := by
    have := congrArg List.length h2
    simp at this; omega
  have := lcp_stop s t l1 l2
  rw [List.drop_eq_getElem_cons l1] at h1
  rw [List.drop_eq_getElem_cons l2] at h2
  injection h1 with h1 _
  injection h2 with h2 _
  rw [← h1, ← h2]; exact this

namespace Ed
def find : Ed → UInt8 → Option Nd
  | nil, _ => none
  | cons c lf pre k r, d => if c = d then some ⟨lf, pre, k⟩ else r.find d
def set : Ed → UInt8 → Nd → Ed
  | nil, _, _ => nil
  | cons c lf pre k r, d, n => if c = d then cons c n.lf n.pre n.kids r else cons c lf pre k (r.set d n)
def add : Ed → UInt8 → Nd → Ed
  | nil, c, n => cons c n.lf n.pre n.kids nil
  | cons d lf pre k r, c, n => if d < c then cons d lf pre k (r.add c n) else cons c n.lf n.pre n.kids (cons d lf pre k r)
def cut1 : Ed → UInt8 → Ed
  | nil, _ => nil
  | cons c lf pre k r, d => if c = d then r else cons c lf pre k (r.cut1 d)
end Ed

/-- A node split at the place where s parts from its text. -/
def Nd.split (n : Nd) (s key : Bs) (v : Int) : Nd :=
  let old : Ed := Ed.nil.add ((n.pre.drop (lcp s n.pre)).headD 0) ⟨n.lf, n.pre.drop (lcp s n.pre), n.kids⟩
  if s.drop (lcp s n.pre) = [] then ⟨some (key, v), s.take (lcp s n.pre), old⟩
  else ⟨none, s.take (lcp s n.pre), old.add ((s.drop (lcp s n.pre)).headD 0) ⟨some (key, v), s.drop (lcp s n.pre), .nil⟩⟩

def Ed.ins : Ed → Bs → Bs → Int → Ed
  | .nil, s, key, v => .cons (s.headD 0) (some (key, v)) s .nil .nil
  | .cons c lf pre k r, s, key, v =>
    if c < s.headD 0 then .cons c lf pre k (r.ins s key v)
    else if c = s.headD 0 then
      if lcp s pre = pre.length then
        if s.drop (lcp s pre) = [] then .cons c (some (key, v)) pre k r
        else .cons c lf pre (k.ins (s.drop (lcp s pre)) key v) r
      else .cons c ((⟨lf, pre, k⟩ : Nd).split s key v).lf ((⟨lf, pre, k⟩ : Nd).split s key v).pre ((⟨lf, pre, k⟩ : Nd).split s key v).kids r
    else .cons (s.headD 0) (some (key, v)) s .nil (.cons c lf pre k r)

theorem Ed.ins_cons (c : UInt8) (lf : Option Rw) (pre : Bs) (k r : Ed) (a : UInt8) (s key : Bs) (v : Int) :
    (Ed.cons c lf pre k r).ins (a :: s) key v = if c < a then .cons c lf pre k (r.ins (a :: s) key v)
    else if c = a then
      if lcp (a :: s) pre = pre.length then
        if (a :: s).drop (lcp (a :: s) pre) = [] then .cons c (some (key, v)) pre k r
        else .cons c lf pre (k.ins ((a :: s).drop (lcp (a :: s) pre)) key v) r
      else .cons c ((⟨lf, pre, k⟩ : Nd).split (a :: s) key v).lf ((⟨lf, pre, k⟩ : Nd).split (a :: s) key v).pre ((⟨lf, pre, k⟩ : Nd).split (a :: s) key v).kids r
    else .cons a (some (key, v)) (a :: s) .nil (.cons c lf pre k r) := rfl

def Nd.ins (n : Nd) (s key : Bs) (v : Int) : Nd :=
  if s = [] then { n with lf := some (key, v) } else { n with kids := n.kids.ins s key v }

theorem split_ok {n : Nd} {p s key : Bs} {v : Int} {c : UInt8} {t u : Bs} (hn : n.wf (p ++ n.pre)) (hp : n.pre = c :: t) (hs : s = c :: u) (hkey : key = p ++ s) (hl : lcp s n.pre ≠ n.pre.length) :
    (∃ t', (n.split s key v).pre = c :: t') ∧ (n.split s key v).wf (p ++ (n.split s key v).pre) ∧ (n.split s key v).ents = put n.ents key v ∧ ((n.split s key v).lf = none → 2 ≤ (n.split s key v).kids.size) := by
  obtain ⟨q, x, y, e1, e2, hq, hx, hy, hne⟩ := lcp_parts s n.pre
  have hy0 : y ≠ [] := by
    intro h; apply hl
    have h1 := lcp_le_r s n.pre
    rw [h] at hy
    have := congrArg List.length hy.symm
    simp at this; omega
  obtain ⟨b, y', rfl⟩ := List.exists_cons_of_ne_nil hy0
  obtain ⟨q', rfl⟩ : ∃ q', q = c :: q' := by
    cases q with
    | nil =>
      rw [hp] at e2; rw [hs] at e1
      exact absurd rfl (hne c u c t (by simpa using e1.symm) (by simpa using e2.symm))
    | cons d q' =>
      rw [hs] at e1
      injection e1 with e1 _
      exact ⟨q', by rw [e1]⟩
  have hold : ∀ z ∈ n.ents, ∃ w, z.1 = p ++ (c :: q') ++ b :: w := by
    intro z hz
    rcases List.mem_append.1 hz with h | h
    · exact ⟨y', by rw [hn.1 z (by simpa using h), e2]; simp⟩
    · obtain ⟨d, _, w, hw⟩ := Ed.key_of_mem hn.2 h
      exact ⟨y' ++ d :: w, by rw [hw, e2]; simp⟩
  have hwf : Nd.wf (p ++ (c :: q') ++ b :: y') ⟨n.lf, b :: y', n.kids⟩ := by
    have : p ++ n.pre = p ++ (c :: q') ++ b :: y' := by rw [e2]; simp
    rw [← this]; exact ⟨hn.1, hn.2⟩
  unfold Nd.split
  rw [← hx, ← hy, ← hq]
  by_cases hx0 : x = []
  · subst hx0
    simp only [if_true]
    refine ⟨⟨q', rfl⟩, ⟨fun z hz => ?_, ?_⟩, ?_, fun h => by cases h⟩
    · have hz' : (key, v) = z := by simpa using hz
      rw [← hz', hkey, e1]; simp
    · refine ⟨⟨y', rfl⟩, fun z hz => ?_, ?_, trivial, fun d hd => by cases hd⟩
      · exact hwf.1 z hz
      · exact hwf.2
    · have : n.ents = (Nd.mk n.lf (b :: y') n.kids).ents := rfl
      rw [put_new (fun z hz => by
        obtain ⟨w, hw⟩ := hold z hz
        rw [hw, hkey, e1, List.append_nil]; exact kl_pre _ _ _)]
      simp [Nd.ents, Ed.ents, Ed.add]
  · obtain ⟨a, x', rfl⟩ := List.exists_cons_of_ne_nil hx0
    have hab := hne a x' b y' rfl rfl
    rw [if_neg (by simp)]
    simp only [List.headD_cons, Ed.add]
    have hk : key = p ++ (c :: q') ++ a :: x' := by rw [hkey, e1]; simp
    by_cases hlt : b < a
    · rw [if_pos hlt]
      refine ⟨⟨q', rfl⟩, ⟨fun z hz => by simp at hz, ?_⟩, ?_, fun _ => by simp [Ed.size]⟩
      · refine ⟨⟨y', rfl⟩, fun z hz => hwf.1 z hz, hwf.2, ⟨⟨x', rfl⟩, fun z hz => ?_, trivial, trivial, fun d hd => by cases hd⟩, fun d hd => ?_⟩
        · have hz' : (key, v) = z := by simpa using hz
          rw [← hz', hk]
        · simp [Ed.labs] at hd; subst hd; exact hlt
      · have := put_left (a := n.ents) (b := []) (k := key) (v := v) (fun z hz => by
          obtain ⟨w, hw⟩ := hold z hz
          rw [hw, hk]; exact kl_lab hlt _ _ _)
        rw [List.append_nil] at this
        rw [this]
        simp [Nd.ents, Ed.ents, put]
    · rw [if_neg hlt]
      have hlt' : a < b := by
        rcases UInt8.lt_or_lt_of_ne hab with h | h
        · exact h
        · exact absurd h hlt
      refine ⟨⟨q', rfl⟩, ⟨fun z hz => by simp at hz, ?_⟩, ?_, fun _ => by simp [Ed.size]⟩
      · refine ⟨⟨x', rfl⟩, fun z hz => ?_, trivial, ⟨⟨y', rfl⟩, fun z hz => hwf.1 z hz, hwf.2, trivial, fun d hd => by cases hd⟩, fun d hd => ?_⟩
        · have hz' : (key, v) = z := by simpa using hz
          rw [← hz', hk]
        · simp [Ed.labs] at hd; subst hd; exact hlt'
      · rw [put_new (fun z hz => by
          obtain ⟨w, hw⟩ := hold z hz
          rw [hw, hk]; exact kl_lab hlt' _ _ _)]
        simp [Nd.ents, Ed.ents]

theorem Ed.ins_ok : ∀ {E : Ed} {p : Bs} {a : UInt8} {s key : Bs} {v : Int}, E.wf p → key = p ++ a :: s →
    (E.ins (a :: s) key v).wf p ∧ (E.ins (a :: s) key v).ents = put E.ents key v ∧ (∀ d, d ∈ (E.ins (a :: s) key v).labs → d = a ∨ d ∈ E.labs) ∧ (E.cmp → (E.ins (a :: s) key v).cmp) ∧ E.size ≤ (E.ins (a :: s) key v).size
  | .nil, p, a, s, key, v, _, hk => by
    refine ⟨⟨⟨s, rfl⟩, fun x hx => ?_, trivial, trivial, fun d hd => by cases hd⟩, rfl, fun d hd => ?_, fun _ => ⟨fun h => (by cases h), trivial, trivial⟩, by simp [Ed.size]⟩
    · have hx' : (key, v) = x := by simpa using hx
      rw [← hx', hk]
    · simp [Ed.ins, Ed.labs] at hd; exact Or.inl hd
  | .cons c lf pre k r, p, a, s, key, v, hw, hk => by
    obtain ⟨⟨t, ht⟩, hl, hkw, hr, hlab⟩ := hw
    have hL : ∀ x ∈ lf.toList, x.1 = p ++ pre := fun x h => hl x (by simpa using h)
    have hhead : ∀ x ∈ lf.toList ++ k.ents, ∃ w, x.1 = p ++ c :: w := by
      intro x hx
      rcases List.mem_append.1 hx with h | h
      · exact ⟨t, by rw [hL x h, ht]⟩
      · obtain ⟨d, _, w, hw⟩ := Ed.key_of_mem hkw h
        exact ⟨t ++ d :: w, by rw [hw, ht]; simp⟩
    have hrest : ∀ x ∈ r.ents, ∃ d w, c < d ∧ x.1 = p ++ d :: w := by
      intro x hx
      obtain ⟨d, hd, w, hw⟩ := Ed.key_of_mem hr hx
      exact ⟨d, w, hlab d hd, hw⟩
    have hE : (Ed.cons c lf pre k r).ents = (lf.toList ++ k.ents) ++ r.ents := by simp [Ed.ents]
    rw [Ed.ins_cons]
    by_cases h1 : c < a
    · rw [if_pos h1]
      obtain ⟨i1, i2, i3, i4, i5⟩ := Ed.ins_ok (E := r) (s := s) (v := v) hr hk
      refine ⟨⟨⟨t, ht⟩, hl, hkw, i1, fun d hd => ?_⟩, ?_, fun d hd => ?_, fun h => ⟨h.1, h.2.1, i4 h.2.2⟩, by simp [Ed.size]; exact i5⟩
      · rcases i3 d hd with rfl | h
        · exact h1
        · exact hlab d h
      · rw [hE, put_left (fun x hx => by
          obtain ⟨w, hw⟩ := hhead x hx
          rw [hw, hk]; exact kl_lab h1 _ _ _)]
        simp [Ed.ents, i2]
      · simp only [Ed.labs, List.mem_cons] at hd ⊢
        rcases hd with h | h
        · exact Or.inr (Or.inl h)
        · rcases i3 d h with h | h
          · exact Or.inl h
          · exact Or.inr (Or.inr h)
    · rw [if_neg h1]
      by_cases h2 : c = a
      · subst h2
        rw [if_pos rfl]
        have hrk : ∀ x ∈ r.ents, Kl key x.1 := fun x hx => by
          obtain ⟨d, w, hd, hw⟩ := hrest x hx
          rw [hw, hk]; exact kl_lab hd _ _ _
        by_cases h3 : lcp (c :: s) pre = pre.length
        · rw [if_pos h3]
          obtain ⟨u, hu⟩ := pfx_iff.1 (lcp_all.1 h3)
          have hdrop : (c :: s).drop (lcp (c :: s) pre) = u := by rw [h3, hu]; simp
          rw [hdrop]
          by_cases h4 : u = []
          · rw [if_pos h4]
            have hkey : key = p ++ pre := by rw [hk, hu, h4]; simp
            refine ⟨⟨⟨t, ht⟩, fun x hx => ?_, hkw, hr, hlab⟩, ?_, fun d hd => Or.inr hd, fun h => ⟨fun h => (by cases h), h.2⟩, by simp [Ed.size]⟩
            · have hx' : (key, v) = x := by simpa using hx
              rw [← hx', hkey]
            · have hkk : ∀ x ∈ k.ents ++ r.ents, Kl key x.1 := fun x hx => by
                rcases List.mem_append.1 hx with h | h
                · obtain ⟨d, _, w, hw⟩ := Ed.key_of_mem hkw h
                  rw [hw, hkey]; exact kl_pre _ _ _
                · exact hrk x h
              show (some (key, v)).toList ++ (k.ents ++ r.ents) = put (lf.toList ++ (k.ents ++ r.ents)) key v
              cases lf with
              | none => exact (put_new hkk).symm
              | some x =>
                have := hL x (by simp)
                obtain ⟨x1, x2⟩ := x
                simp only at this
                rw [this, ← hkey]
                exact put_same.symm
          · rw [if_neg h4]
            obtain ⟨a', u', rfl⟩ := List.exists_cons_of_ne_nil h4
            have hkey : key = (p ++ pre) ++ a' :: u' := by rw [hk, hu]; simp
            obtain ⟨i1, i2, i3, i4, i5⟩ := Ed.ins_ok (E := k) (v := v) hkw hkey
            refine ⟨⟨⟨t, ht⟩, hl, i1, hr, hlab⟩, ?_, fun d hd => Or.inr hd, fun h => ⟨fun e => Nat.le_trans (h.1 e) i5, i4 h.2.1, h.2.2⟩, by simp [Ed.size]⟩
            show lf.toList ++ ((k.ins (a' :: u') key v).ents ++ r.ents) = put (lf.toList ++ (k.ents ++ r.ents)) key v
            rw [put_left (fun x hx => by rw [hL x hx, hkey]; exact kl_pre _ _ _), put_right hrk, i2]
        · rw [if_neg h3]
          obtain ⟨⟨t', j0⟩, j1, j2, j3⟩ := split_ok (n := ⟨lf, pre, k⟩) (p := p) (v := v) ⟨hl, hkw⟩ ht rfl hk h3
          refine ⟨⟨⟨t', j0⟩, j1.1, j1.2, hr, hlab⟩, ?_, fun d hd => Or.inr hd, fun h => ⟨j3, ?_, h.2.2⟩, by simp [Ed.size]⟩
          · have e : (lf.toList ++ k.ents) = (Nd.mk lf pre k).ents := rfl
            rw [hE, put_right hrk, e, ← j2]
            simp [Ed.ents, Nd.ents]
          · -- the two new children
            have hold : lf = none → 2 ≤ k.size := h.1
            unfold Nd.split
            simp only [Ed.add]
            split
            · exact ⟨hold, h.2.1, trivial⟩
            · dsimp only
              split
              · exact ⟨hold, h.2.1, (fun h => by cases h), trivial, trivial⟩
              · exact ⟨(fun h => by cases h), trivial, hold, h.2.1, trivial⟩
      · rw [if_neg h2]
        have h3 : a < c := by
          rcases UInt8.lt_or_lt_of_ne h2 with h | h
          · exact absurd h h1
          · exact h
        refine ⟨⟨⟨s, rfl⟩, fun x hx => ?_, trivial, ⟨⟨t, ht⟩, hl, hkw, hr, hlab⟩, fun d hd => ?_⟩, ?_, fun d hd => ?_, fun h => ⟨(fun h => by cases h), trivial, h⟩, by simp [Ed.size]⟩
        · have hx' : (key, v) = x := by simpa using hx
          rw [← hx', hk]
        · simp only [Ed.labs, List.mem_cons] at hd
          rcases hd with rfl | h
          · exact h3
          · exact UInt8.lt_trans h3 (hlab d h)
        · rw [put_new (fun x hx => by
            rw [hE] at hx
            rcases List.mem_append.1 hx with h | h
            · obtain ⟨w, hw⟩ := hhead x h
              rw [hw, hk]; exact kl_lab h3 _ _ _
            · obtain ⟨d, w, hd, hw⟩ := hrest x h
              rw [hw, hk]; exact kl_lab (UInt8.lt_trans h3 hd) _ _ _)]
          rfl
        · simp only [Ed.labs, List.mem_cons] at hd ⊢
          exact hd

/-- A root: its own text is empty. -/
def Nd.root (n : Nd) : Prop := n.pre = [] ∧ n.wf [] ∧ True

theorem Nd.ins_ok {n : Nd} {s : Bs} {v : Int} (h : n.wf []) : (n.ins s s v).wf [] ∧ (n.ins s s v).ents = put n.ents s v ∧ (n.kids.cmp → (n.ins s s v).kids.cmp) := by
  unfold Nd.ins
  cases s with
  | nil =>
    rw [if_pos rfl]
    refine ⟨⟨fun x hx => ?_, h.2⟩, ?_, id⟩
    · have hx' : ([], v) = x := by simpa using hx
      rw [← hx']
    · show (some ([], v)).toList ++ n.kids.ents = put (n.lf.toList ++ n.kids.ents) [] v
      have hkk : ∀ x ∈ n.kids.ents, Kl [] x.1 := fun x hx => by
        obtain ⟨d, _, w, hw⟩ := Ed.key_of_mem h.2 hx
        rw [hw]; rfl
      cases e : n.lf with
      | none => exact (put_new hkk).symm
      | some x =>
        have := h.1 x e
        obtain ⟨x1, x2⟩ := x
        simp only at this
        rw [this]
        exact put_same.symm
  | cons a s =>
    rw [if_neg (by simp)]
    obtain ⟨i1, i2, _, i4, _⟩ := Ed.ins_ok (E := n.kids) (p := []) (a := a) (s := s) (key := a :: s) (v := v) h.2 rfl
    refine ⟨⟨h.1, i1⟩, ?_, i4⟩
    show n.lf.toList ++ (n.kids.ins (a :: s) (a :: s) v).ents = put (n.lf.toList ++ n.kids.ents) (a :: s) v
    rw [i2, put_left (fun x hx => by rw [h.1 x (by simpa using hx)]; rfl)]

end Go.Proofs.Ytaidaohkbbdimaa

namespace Go.Proofs.Ytaidaohkbbdimaa

/-- What a cons of edges says of the keys in it. -/
theorem Ed.heads {c : UInt8} {lf : Option Rw} {pre : Bs} {k r : Ed} {p : Bs} (h : (Ed.cons c lf pre k r).wf p) :
    (∀ x ∈ lf.toList ++ k.ents, ∃ w, x.1 = (p ++ pre) ++ w ∧ x.1 = p ++ c :: (pre.drop 1 ++ w)) ∧ (∀ x ∈ r.ents, ∃ d w, c < d ∧ x.1 = p ++ d :: w) := by
  obtain ⟨⟨t, ht⟩, hl, hkw, hr, hlab⟩ := h
  refine ⟨fun x hx => ?_, fun x hx => ?_⟩
  · rcases List.mem_append.1 hx with h | h
    · exact ⟨[], by rw [hl x (by simpa using h)]; simp, by rw [hl x (by simpa using h), ht]; simp⟩
    · obtain ⟨d, _, w, hw⟩ := Ed.key_of_mem hkw h
      exact ⟨d :: w, hw, by rw [hw, ht]; simp⟩
  · obtain ⟨d, hd, w, hw⟩ := Ed.key_of_mem hr hx
    exact ⟨d, w, hlab d hd, hw⟩

theorem ne_of_ltu {a b : UInt8} (h : a < b) : a ≠ b := fun e => by subst e; exact UInt8.lt_irrefl _ h

/-! ### Search -/
def Ed.get : Ed → Bs → Option Int
  | .nil, _ => none
  | .cons c lf pre k r, s => if s.head? = some c then (if pre.isPrefixOf s then (if s.drop pre.length = [] then lf.map (·.2) else k.get (s.drop pre.length)) else none) else r.get s
def Nd.get (n : Nd) (s : Bs) : Option Int := if s = [] then n.lf.map (·.2) else n.kids.get s

theorem look_of_none {l : List Rw} {k : Bs} (h : ∀ x ∈ l, x.1 ≠ k) : look l k = none := look_none.2 h
theorem look_one {lf : Option Rw} {p : Bs} (h : ∀ x, lf = some x → x.1 = p) : look lf.toList p = lf.map (·.2) := by
  cases lf with
  | none => rfl
  | some x => simp [look, h x rfl]

theorem Ed.get_ok : ∀ {E : Ed} {p : Bs} {a : UInt8} {s : Bs}, E.wf p → E.get (a :: s) = look E.ents (p ++ a :: s)
  | .nil, _, _, _, _ => rfl
  | .cons c lf pre k r, p, a, s, hw => by
    obtain ⟨h1, h2⟩ := Ed.heads hw
    obtain ⟨⟨t, ht⟩, hl, hkw, hr, hlab⟩ := hw
    have hE : (Ed.cons c lf pre k r).ents = (lf.toList ++ k.ents) ++ r.ents := by simp [Ed.ents]
    rw [hE, look_append]
    unfold Ed.get
    by_cases h : a = c
    · subst h
      rw [if_pos (show (a :: s).head? = some a from rfl), look_of_none (l := r.ents) (fun x hx => by
        obtain ⟨d, w, hd, hw⟩ := h2 x hx
        rw [hw]; exact (lab_ne _ _ _ (ne_of_ltu hd)).symm), Option.or_none]
      by_cases hp : pre.isPrefixOf (a :: s) = true
      · rw [if_pos hp]
        obtain ⟨u, hu⟩ := pfx_iff.1 hp
        have hd : (a :: s).drop pre.length = u := by rw [hu]; simp
        rw [hd, hu, look_append]
        cases u with
        | nil =>
          rw [if_pos rfl, List.append_nil, look_one hl, look_of_none (l := k.ents) (fun x hx => by
            obtain ⟨d, _, w, hw⟩ := Ed.key_of_mem hkw hx
            rw [hw]; exact (kl_pre _ _ _).ne.symm), Option.or_none]
        | cons b u =>
          rw [if_neg (by simp), look_of_none (l := lf.toList) (fun x hx => by
            rw [hl x (by simpa using hx), ← List.append_assoc]; exact (kl_pre _ _ _).ne), Option.none_or, ← List.append_assoc]
          exact Ed.get_ok hkw
      · rw [if_neg hp, look_of_none]
        intro x hx e
        obtain ⟨w, hw, _⟩ := h1 x hx
        rw [e, List.append_assoc] at hw
        exact hp (pfx_iff.2 ⟨w, List.append_cancel_left hw⟩)
    · rw [if_neg (by simpa using h), look_of_none (l := lf.toList ++ k.ents) (fun x hx => by
        obtain ⟨w, _, hw⟩ := h1 x hx
        rw [hw]; exact lab_ne _ _ _ (Ne.symm h)), Option.none_or]
      exact Ed.get_ok hr

theorem Nd.get_ok {n : Nd} {s : Bs} (h : n.wf []) : n.get s = look n.ents s := by
  unfold Nd.get Nd.ents
  rw [look_append]
  cases s with
  | nil =>
    rw [if_pos rfl, look_one h.1, look_of_none (l := n.kids.ents) (fun x hx => by
      obtain ⟨d, _, w, hw⟩ := Ed.key_of_mem h.2 hx
      rw [hw]; simp), Option.or_none]
  | cons a s =>
    rw [if_neg (by simp), look_of_none (l := n.lf.toList) (fun x hx => by rw [h.1 x (by simpa using hx)]; simp), Option.none_or]
    exact Ed.get_ok h.2

/-! ### Above -/
def Ed.abv : Ed → Bs → List Rw
  | .nil, _ => []
  | .cons c lf pre k r, s => if s.head? = some c then (if pre.isPrefixOf s then lf.toList ++ k.abv (s.drop pre.length) else []) else r.abv s
def Nd.abv (n : Nd) (s : Bs) : List Rw := n.lf.toList ++ n.kids.abv s

theorem filter_one {lf : Option Rw} {f : Rw → Bool} (h : ∀ x, lf = some x → f x = true) : lf.toList.filter f = lf.toList :=
  filter_all fun x hx => h x (by simpa using hx)

theorem Ed.abv_ok : ∀ {E : Ed} {p s : Bs}, E.wf p → E.abv s = Ytaidaohkbbdimaa.abv E.ents (p ++ s)
  | .nil, _, _, _ => rfl
  | .cons c lf pre k r, p, s, hw => by
    obtain ⟨h1, h2⟩ := Ed.heads hw
    obtain ⟨⟨t, ht⟩, hl, hkw, hr, hlab⟩ := hw
    have hE : (Ed.cons c lf pre k r).ents = (lf.toList ++ k.ents) ++ r.ents := by simp [Ed.ents]
    unfold Ytaidaohkbbdimaa.abv
    rw [hE, List.filter_append]
    unfold Ed.abv
    cases s with
    | nil =>
      rw [if_neg (by simp), filter_none (l := lf.toList ++ k.ents) (fun x hx => by
        obtain ⟨w, _, hw⟩ := h1 x hx
        rw [hw, List.append_nil]; exact pfx_long _ _ _), List.nil_append]
      exact Ed.abv_ok hr
    | cons a s =>
      by_cases h : a = c
      · subst h
        rw [if_pos (show (a :: s).head? = some a from rfl), filter_none (l := r.ents) (fun x hx => by
          obtain ⟨d, w, hd, hw⟩ := h2 x hx
          rw [hw]; exact pfx_lab _ _ _ (ne_of_ltu hd).symm), List.append_nil]
        by_cases hp : pre.isPrefixOf (a :: s) = true
        · rw [if_pos hp]
          obtain ⟨u, hu⟩ := pfx_iff.1 hp
          have hd : (a :: s).drop pre.length = u := by rw [hu]; simp
          rw [hd, hu, List.filter_append, filter_one (fun x hx => by rw [hl x hx, ← List.append_assoc]; exact pfx_self _ _), ← List.append_assoc]
          congr 1
          exact Ed.abv_ok hkw
        · rw [if_neg hp, filter_none]
          intro x hx
          obtain ⟨w, hw, _⟩ := h1 x hx
          rw [hw, List.append_assoc, pfx_app]
          cases e : (pre ++ w).isPrefixOf (a :: s) with
          | false => rfl
          | true =>
            obtain ⟨u, hu⟩ := pfx_iff.1 e
            exact absurd (pfx_iff.2 ⟨w ++ u, by rw [hu]; simp⟩) hp
      · rw [if_neg (by simpa using h), filter_none (l := lf.toList ++ k.ents) (fun x hx => by
          obtain ⟨w, _, hw⟩ := h1 x hx
          rw [hw]; exact pfx_lab _ _ _ (Ne.symm h)), List.nil_append]
        exact Ed.abv_ok hr

theorem Nd.abv_ok {n : Nd} {s : Bs} (h : n.wf []) : n.abv s = Ytaidaohkbbdimaa.abv n.ents s := by
  unfold Nd.abv Ytaidaohkbbdimaa.abv Nd.ents
  rw [List.filter_append, filter_one (fun x hx => by rw [h.1 x hx]; exact pfx_nil _)]
  congr 1
  exact Ed.abv_ok (p := []) h.2

/-! ### Under -/
def Ed.und : Ed → Bs → List Rw
  | .nil, _ => []
  | .cons c lf pre k r, s => if s.head? = some c then (if pre.isPrefixOf s then (if s.drop pre.length = [] then lf.toList ++ k.ents else k.und (s.drop pre.length)) else if s.isPrefixOf pre then lf.toList ++ k.ents else []) else r.und s
def Nd.und (n : Nd) (s : Bs) : List Rw := if s = [] then n.ents else n.kids.und s

theorem pfx_par {s p : Bs} (h1 : p.isPrefixOf s = false) (h2 : s.isPrefixOf p = false) (w : Bs) : s.isPrefixOf (p ++ w) = false := by
  cases e : s.isPrefixOf (p ++ w) with
  | false => rfl
  | true =>
    rw [List.isPrefixOf_iff_prefix] at e
    have h3 : p <+: p ++ w := List.prefix_append _ _
    rcases List.prefix_or_prefix_of_prefix e h3 with h | h
    · rw [← List.isPrefixOf_iff_prefix, h2] at h; cases h
    · rw [← List.isPrefixOf_iff_prefix, h1] at h; cases h

theorem Ed.und_ok : ∀ {E : Ed} {p : Bs} {a : UInt8} {s : Bs}, E.wf p → E.und (a :: s) = Ytaidaohkbbdimaa.und E.ents (p ++ a :: s)
  | .nil, _, _, _, _ => rfl
  | .cons c lf pre k r, p, a, s, hw => by
    obtain ⟨h1, h2⟩ := Ed.heads hw
    obtain ⟨⟨t, ht⟩, hl, hkw, hr, hlab⟩ := hw
    have hE : (Ed.cons c lf pre k r).ents = (lf.toList ++ k.ents) ++ r.ents := by simp [Ed.ents]
    unfold Ytaidaohkbbdimaa.und
    rw [hE, List.filter_append]
    unfold Ed.und
    by_cases h : a = c
    · subst h
      rw [if_pos (show (a :: s).head? = some a from rfl), filter_none (l := r.ents) (fun x hx => by
        obtain ⟨d, w, hd, hw⟩ := h2 x hx
        rw [hw]; exact pfx_lab _ _ _ (ne_of_ltu hd)), List.append_nil]
      by_cases hp : pre.isPrefixOf (a :: s) = true
      · rw [if_pos hp]
        obtain ⟨u, hu⟩ := pfx_iff.1 hp
        have hd : (a :: s).drop pre.length = u := by rw [hu]; simp
        rw [hd, hu]
        cases u with
        | nil =>
          rw [if_pos rfl, List.append_nil, filter_all]
          intro x hx
          obtain ⟨w, hw, _⟩ := h1 x hx
          rw [hw]; exact pfx_self _ _
        | cons b u =>
          rw [if_neg (by simp), List.filter_append, filter_none (l := lf.toList) (fun x hx => by
            rw [hl x (by simpa using hx), ← List.append_assoc]; exact pfx_long _ _ _), List.nil_append, ← List.append_assoc]
          exact Ed.und_ok hkw
      · rw [if_neg hp]
        by_cases hq : (a :: s).isPrefixOf pre = true
        · rw [if_pos hq, filter_all]
          intro x hx
          obtain ⟨w, hw, _⟩ := h1 x hx
          obtain ⟨u, hu⟩ := pfx_iff.1 hq
          rw [hw, hu]
          exact pfx_iff.2 ⟨u ++ w, by simp⟩
        · rw [if_neg hq, filter_none]
          intro x hx
          obtain ⟨w, hw, _⟩ := h1 x hx
          rw [hw, List.append_assoc, pfx_app]
          exact pfx_par (Bool.eq_false_iff.2 hp) (Bool.eq_false_iff.2 hq) w
    · rw [if_neg (by simpa using h), filter_none (l := lf.toList ++ k.ents) (fun x hx => by
        obtain ⟨w, _, hw⟩ := h1 x hx
        rw [hw]; exact pfx_lab _ _ _ h), List.nil_append]
      exact Ed.und_ok hr

theorem Nd.und_ok {n : Nd} {s : Bs} (h : n.wf []) : n.und s = Ytaidaohkbbdimaa.und n.ents s := by
  unfold Nd.und
  cases s with
  | nil => rw [if_pos rfl]; unfold Ytaidaohkbbdimaa.und; rw [filter_all]; intro x _; exact pfx_nil _
  | cons a s =>
    rw [if_neg (by simp)]
    unfold Ytaidaohkbbdimaa.und Nd.ents
    rw [List.filter_append, filter_none (l := n.lf.toList) (fun x hx => by rw [h.1 x (by simpa using hx)]; rfl), List.nil_append]
    exact Ed.und_ok (p := []) h.2

/-! ### The least and the greatest -/
def Ed.min : Ed → Option Rw
  | .nil => none
  | .cons _ lf _ k _ => lf.or k.min
def Nd.min (n : Nd) : Option Rw := n.lf.or n.kids.min
def Ed.max : Ed → Option Rw
  | .nil => none
  | .cons _ lf _ .nil .nil => lf
  | .cons _ _ _ (.cons c l q k r) .nil => (Ed.cons c l q k r).max
  | .cons _ _ _ _ (.cons c l q k r) => (Ed.cons c l q k r).max
def Nd.max (n : Nd) : Option Rw := if n.kids.size = 0 then n.lf else n.kids.max

theorem Ed.cmp_ne : ∀ {E : Ed}, E.cmp → 0 < E.size → E.ents ≠ []
  | .nil, _, h => by simp [Ed.size] at h
  | .cons c lf pre k r, hc, _ => by
    cases lf with
    | some x => simp [Ed.ents]
    | none =>
      have h2 := hc.1 rfl
      have := Ed.cmp_ne hc.2.1 (by omega)
      simp [Ed.ents, this]

theorem Ed.min_ok : ∀ {E : Ed}, E.cmp → E.min = E.ents.head?
  | .nil, _ => rfl
  | .cons c lf pre k r, hc => by
    unfold Ed.min Ed.ents
    cases lf with
    | some x => rfl
    | none =>
      have h2 := hc.1 rfl
      have h3 := Ed.cmp_ne hc.2.1 (by omega)
      rw [Option.none_or, Ed.min_ok hc.2.1]
      obtain ⟨y, l, e⟩ := List.exists_cons_of_ne_nil h3
      simp [e]
theorem Nd.min_ok {n : Nd} (h : n.kids.cmp) : n.min = n.ents.head? := by
  unfold Nd.min Nd.ents
  rw [Ed.min_ok h]
  cases n.lf <;> simp

theorem getLast?_app {a b : List Rw} (h : b ≠ []) : (a ++ b).getLast? = b.getLast? := by
  obtain ⟨y, l, e⟩ := List.exists_cons_of_ne_nil h
  rw [List.getLast?_append]
  subst e
  cases e : (y :: l).getLast? with
  | some z => rfl
  | none => simp at e
theorem Ed.max_ok : ∀ {E : Ed}, E.cmp → E.max = E.ents.getLast?
  | .nil, _ => rfl
  | .cons _ lf _ .nil .nil, hc => by
    cases lf with
    | some x => rfl
    | none => have := hc.1 rfl; simp [Ed.size] at this
  | .cons a lf p (.cons c l q k r) .nil, hc => by
    have h3 := Ed.cmp_ne hc.2.1 (by simp [Ed.size])
    have := Ed.max_ok hc.2.1
    rw [Ed.max, this]
    have e : (Ed.cons a lf p (.cons c l q k r) .nil).ents = lf.toList ++ (Ed.cons c l q k r).ents := by simp [Ed.ents]
    rw [e, getLast?_app h3]
  | .cons a lf p k0 (.cons c l q k r), hc => by
    have h3 := Ed.cmp_ne hc.2.2 (by simp [Ed.size])
    have := Ed.max_ok hc.2.2
    have e : (Ed.cons a lf p k0 (.cons c l q k r)).ents = (lf.toList ++ k0.ents) ++ (Ed.cons c l q k r).ents := by simp [Ed.ents]
    rw [e, getLast?_app h3, ← this]
    cases k0 <;> rfl
theorem Nd.max_ok {n : Nd} (h : n.kids.cmp) : n.max = n.ents.getLast? := by
  unfold Nd.max Nd.ents
  by_cases h0 : n.kids.size = 0
  · rw [if_pos h0]
    have : n.kids = .nil := by
      cases e : n.kids with
      | nil => rfl
      | cons => rw [e] at h0; simp [Ed.size] at h0
    rw [this]
    cases n.lf <;> rfl
  · rw [if_neg h0, Ed.max_ok h, getLast?_app (Ed.cmp_ne h (by omega))]
/-- With no entry at all neither is there. -/
theorem Ed.min_none : ∀ {E : Ed}, E.ents = [] → E.min = none
  | .nil, _ => rfl
  | .cons c lf pre k r, h => by
    simp only [Ed.ents, List.append_eq_nil_iff] at h
    cases lf with
    | some x => simp at h
    | none => rw [Ed.min, Option.none_or]; exact Ed.min_none h.2.1
theorem Ed.max_none : ∀ {E : Ed}, E.ents = [] → E.max = none
  | .nil, _ => rfl
  | .cons _ lf _ .nil .nil, h => by
    simp only [Ed.ents, List.append_eq_nil_iff] at h
    cases lf with
    | some x => simp at h
    | none => rfl
  | .cons a lf p (.cons c l q k r) .nil, h => by
    rw [Ed.ents, List.append_eq_nil_iff, List.append_eq_nil_iff] at h
    rw [Ed.max]; exact Ed.max_none h.2.1
  | .cons a lf p k0 (.cons c l q k r), h => by
    rw [Ed.ents, List.append_eq_nil_iff, List.append_eq_nil_iff] at h
    have := Ed.max_none h.2.2
    rw [← this]
    cases k0 <;> rfl
theorem Nd.min_none {n : Nd} (h : n.ents = []) : n.min = none := by
  unfold Nd.ents at h
  rw [List.append_eq_nil_iff] at h
  unfold Nd.min
  rw [Ed.min_none h.2]
  cases e : n.lf with
  | none => rfl
  | some x => rw [e] at h; simp at h
theorem Nd.max_none {n : Nd} (h : n.ents = []) : n.max = none := by
  unfold Nd.ents at h
  rw [List.append_eq_nil_iff] at h
  unfold Nd.max
  rw [Ed.max_none h.2]
  cases e : n.lf with
  | none => simp
  | some x => rw [e] at h; simp at h

end Go.Proofs.Ytaidaohkbbdimaa

namespace Go.Proofs.Ytaidaohkbbdimaa

/-- A node takes its only child into itself. -/
def Nd.merge (n : Nd) : Nd := match n.kids with
  | .cons _ lf pre k .nil => ⟨lf, n.pre ++ pre, k⟩
  | _ => n
def Nd.tidy (n : Nd) : Nd := match n.lf with
  | none => n.merge
  | some _ => n
/-- What of a node is sound below the text p, its label being c. -/
def Nd.ok (p : Bs) (c : UInt8) (n : Nd) : Prop := (∃ t, n.pre = c :: t) ∧ n.wf (p ++ n.pre)
def Nd.cmp (n : Nd) : Prop := (n.lf = none → 2 ≤ n.kids.size) ∧ n.kids.cmp

theorem Nd.merge_ok {n : Nd} {p : Bs} {c : UInt8} (h : n.ok p c) (hl : n.lf = none) : n.merge.ok p c ∧ n.merge.ents = n.ents := by
  unfold Nd.merge
  split
  · rename_i d lf pre k e
    obtain ⟨⟨t, ht⟩, hw⟩ := h
    obtain ⟨_, hk⟩ := hw
    rw [e] at hk
    obtain ⟨_, hl2, hk2, _, _⟩ := hk
    refine ⟨⟨⟨t ++ pre, by simp [ht]⟩, fun x hx => ?_, ?_⟩, ?_⟩
    · have := hl2 x hx
      simpa [List.append_assoc] using this
    · simpa [List.append_assoc] using hk2
    · simp [Nd.ents, e, hl, Ed.ents]
  · exact ⟨h, rfl⟩
theorem Nd.merge_cmp {n : Nd} (h : n.kids.cmp) (h1 : 1 ≤ n.kids.size) : n.merge.cmp := by
  unfold Nd.merge
  split
  · rename_i d lf pre k e
    rw [e] at h
    exact ⟨h.1, h.2.1⟩
  · rename_i hn
    refine ⟨fun _ => ?_, h⟩
    cases e : n.kids with
    | nil => rw [e] at h1; simp [Ed.size] at h1
    | cons a b c d r =>
      cases r with
      | nil => exact (hn a b c d e).elim
      | cons => simp [Ed.size]
theorem Nd.tidy_ok {n : Nd} {p : Bs} {c : UInt8} (h : n.ok p c) : n.tidy.ok p c ∧ n.tidy.ents = n.ents := by
  unfold Nd.tidy
  split
  · rename_i e; exact Nd.merge_ok h e
  · exact ⟨h, rfl⟩
theorem Nd.tidy_cmp {n : Nd} (h : n.kids.cmp) (h1 : n.lf = none → 1 ≤ n.kids.size) : n.tidy.cmp := by
  unfold Nd.tidy
  split
  · rename_i e; exact Nd.merge_cmp h (h1 e)
  · rename_i x e; exact ⟨fun h => by (rw [e] at h; cases h), h⟩

def Ed.del : Ed → Bs → Ed × Bool
  | .nil, _ => (.nil, false)
  | .cons c lf pre k r, s =>
    if s.head? = some c then
      if pre.isPrefixOf s then
        if s.drop pre.length = [] then
          match lf, k with
          | none, _ => (.cons c lf pre k r, false)
          | some _, .nil => (r, true)
          | some _, .cons a l q j t => (.cons c (Nd.merge ⟨none, pre, .cons a l q j t⟩).lf (Nd.merge ⟨none, pre, .cons a l q j t⟩).pre (Nd.merge ⟨none, pre, .cons a l q j t⟩).kids r, true)
        else if (k.del (s.drop pre.length)).2 then
          (.cons c (Nd.tidy ⟨lf, pre, (k.del (s.drop pre.length)).1⟩).lf (Nd.tidy ⟨lf, pre, (k.del (s.drop pre.length)).1⟩).pre (Nd.tidy ⟨lf, pre, (k.del (s.drop pre.length)).1⟩).kids r, false)
        else (.cons c lf pre (k.del (s.drop pre.length)).1 r, false)
      else (.cons c lf pre k r, false)
    else (.cons c lf pre k (r.del s).1, (r.del s).2)
def Nd.del (n : Nd) (s : Bs) : Nd := if s = [] then { n with lf := none } else { n with kids := (n.kids.del s).1 }

theorem drop1_app (a b : List Rw) (k : Bs) : drop1 (a ++ b) k = drop1 a k ++ drop1 b k := by simp [drop1]
theorem drop1_off {l : List Rw} {k : Bs} (h : ∀ x ∈ l, x.1 ≠ k) : drop1 l k = l := filter_all fun x hx => by simp [h x hx]
theorem drop1_one {lf : Option Rw} {p : Bs} (h : ∀ x, lf = some x → x.1 = p) : drop1 lf.toList p = [] := filter_none fun x hx => by simp [h x (by simpa using hx)]

/-- A sound node in the place of a child. -/
theorem Ed.wf_put {c : UInt8} {lf : Option Rw} {pre : Bs} {k r : Ed} {p : Bs} (h : (Ed.cons c lf pre k r).wf p) {n : Nd} (hn : n.ok p c) : (Ed.cons c n.lf n.pre n.kids r).wf p :=
  ⟨hn.1, hn.2.1, hn.2.2, h.2.2.2.1, h.2.2.2.2⟩
theorem Ed.ok_of {c : UInt8} {lf : Option Rw} {pre : Bs} {k r : Ed} {p : Bs} (h : (Ed.cons c lf pre k r).wf p) : (Nd.mk lf pre k).ok p c := ⟨h.1, h.2.1, h.2.2.1⟩
theorem Ed.ents_nd (c : UInt8) (n : Nd) (r : Ed) : (Ed.cons c n.lf n.pre n.kids r).ents = n.ents ++ r.ents := by simp [Ed.ents, Nd.ents]

theorem Ed.del_ok : ∀ {E : Ed} {p : Bs} {a : UInt8} {s : Bs}, E.wf p →
    (E.del (a :: s)).1.wf p ∧ (E.del (a :: s)).1.ents = drop1 E.ents (p ++ a :: s) ∧ (∀ d, d ∈ (E.del (a :: s)).1.labs → d ∈ E.labs) ∧
    (E.cmp → (E.del (a :: s)).1.cmp ∧ E.size ≤ (E.del (a :: s)).1.size + 1 ∧ ((E.del (a :: s)).2 = false → (E.del (a :: s)).1.size = E.size))
  | .nil, _, _, _, _ => ⟨trivial, rfl, fun _ h => h, fun _ => ⟨trivial, by simp [Ed.size], fun _ => rfl⟩⟩
  | .cons c lf pre k r, p, a, s, hw => by
    obtain ⟨h1, h2⟩ := Ed.heads hw
    have hw0 := hw
    obtain ⟨⟨t, ht⟩, hl, hkw, hr, hlab⟩ := hw
    have hE : (Ed.cons c lf pre k r).ents = (lf.toList ++ k.ents) ++ r.ents := by simp [Ed.ents]
    rw [hE, drop1_app]
    unfold Ed.del
    by_cases h : a = c
    · subst h
      rw [if_pos (show (a :: s).head? = some a from rfl), drop1_off (l := r.ents) (fun x hx => by
        obtain ⟨d, w, hd, hw⟩ := h2 x hx
        rw [hw]; exact (lab_ne _ _ _ (ne_of_ltu hd)).symm)]
      by_cases hp : pre.isPrefixOf (a :: s) = true
      · rw [if_pos hp]
        obtain ⟨u, hu⟩ := pfx_iff.1 hp
        have hd : (a :: s).drop pre.length = u := by rw [hu]; simp
        rw [hd, hu]
        cases u with
        | nil =>
          rw [if_pos rfl, List.append_nil, drop1_app, drop1_one hl, List.nil_append, drop1_off (l := k.ents) (fun x hx => by
            obtain ⟨d, _, w, hw⟩ := Ed.key_of_mem hkw hx
            rw [hw]; exact (kl_pre _ _ _).ne.symm)]
          cases lf with
          | none => exact ⟨hw0, by simp [Ed.ents], fun _ h => h, fun h => ⟨h, by simp, fun _ => rfl⟩⟩
          | some x =>
            cases k with
            | nil => exact ⟨hr, by simp [Ed.ents], fun d hd => by simp [Ed.labs, hd], fun h => ⟨h.2.2, by simp [Ed.size], fun e => by cases e⟩⟩
            | cons b l q j t' =>
              have hok : (Nd.mk none pre (.cons b l q j t')).ok p a := ⟨⟨t, ht⟩, (fun x hx => by cases hx), hkw⟩
              obtain ⟨g1, g2⟩ := Nd.merge_ok hok rfl
              refine ⟨Ed.wf_put hw0 g1, ?_, fun _ h => h, fun h => ⟨?_, by simp [Ed.size], fun e => by cases e⟩⟩
              · rw [Ed.ents_nd, g2]; simp [Nd.ents]
              · have := Nd.merge_cmp (n := ⟨none, pre, .cons b l q j t'⟩) h.2.1 (by simp [Ed.size])
                exact ⟨this.1, this.2, h.2.2⟩
        | cons b u =>
          rw [if_neg (by simp), drop1_app, drop1_off (l := lf.toList) (fun x hx => by
            rw [hl x (by simpa using hx), ← List.append_assoc]; exact (kl_pre _ _ _).ne)]
          obtain ⟨i1, i2, _, i4⟩ := Ed.del_ok (E := k) (a := b) (s := u) hkw
          rw [List.append_assoc] at i2
          have hok : (Nd.mk lf pre (k.del (b :: u)).1).ok p a := ⟨⟨t, ht⟩, hl, i1⟩
          cases hd2 : (k.del (b :: u)).2 with
          | true =>
            rw [if_pos rfl]
            obtain ⟨g1, g2⟩ := Nd.tidy_ok hok
            refine ⟨Ed.wf_put hw0 g1, ?_, fun _ h => h, fun h => ⟨?_, by simp [Ed.size], fun _ => by simp [Ed.size]⟩⟩
            · rw [Ed.ents_nd, g2, ← i2]; simp [Nd.ents]
            · have := Nd.tidy_cmp (n := ⟨lf, pre, (k.del (b :: u)).1⟩) (i4 h.2.1).1 (fun e => by
                have h3 := h.1 e
                have h4 := (i4 h.2.1).2.1
                show 1 ≤ (k.del (b :: u)).1.size
                omega)
              exact ⟨this.1, this.2, h.2.2⟩
          | false =>
            rw [if_neg (by simp)]
            refine ⟨Ed.wf_put hw0 hok, ?_, fun _ h => h, fun h => ⟨⟨fun e => ?_, (i4 h.2.1).1, h.2.2⟩, by simp [Ed.size], fun _ => by simp [Ed.size]⟩⟩
            · rw [← i2]; simp [Ed.ents]
            · rw [(i4 h.2.1).2.2 hd2]; exact h.1 e
      · rw [if_neg hp, drop1_off (l := lf.toList ++ k.ents) (fun x hx e => by
          obtain ⟨w, hw, _⟩ := h1 x hx
          rw [e, List.append_assoc] at hw
          exact hp (pfx_iff.2 ⟨w, List.append_cancel_left hw⟩))]
        exact ⟨hw0, by simp [Ed.ents], fun _ h => h, fun h => ⟨h, by simp, fun _ => rfl⟩⟩
    · rw [if_neg (by simpa using h), drop1_off (l := lf.toList ++ k.ents) (fun x hx => by
        obtain ⟨w, _, hw⟩ := h1 x hx
        rw [hw]; exact lab_ne _ _ _ (Ne.symm h))]
      obtain ⟨i1, i2, i3, i4⟩ := Ed.del_ok (E := r) (a := a) (s := s) hr
      refine ⟨⟨⟨t, ht⟩, hl, hkw, i1, fun d hd => hlab d (i3 d hd)⟩, ?_, fun d hd => ?_, fun h => ?_⟩
      · rw [← i2]; simp [Ed.ents]
      · simp only [Ed.labs, List.mem_cons] at hd ⊢
        rcases hd with h | h
        · exact Or.inl h
        · exact Or.inr (i3 d h)
      · obtain ⟨j1, j2, j3⟩ := i4 h.2.2
        exact ⟨⟨h.1, h.2.1, j1⟩, by simp [Ed.size]; omega, fun e => by simp [Ed.size, j3 e]⟩

theorem Nd.del_ok {n : Nd} {s : Bs} (h : n.wf []) : (n.del s).wf [] ∧ (n.del s).ents = drop1 n.ents s ∧ (n.kids.cmp → (n.del s).kids.cmp) := by
  unfold Nd.del Nd.ents
  rw [drop1_app]
  cases s with
  | nil =>
    rw [if_pos rfl, drop1_one h.1, drop1_off (l := n.kids.ents) (fun x hx => by
      obtain ⟨d, _, w, hw⟩ := Ed.key_of_mem h.2 hx
      rw [hw]; simp)]
    exact ⟨⟨(fun x hx => by cases hx), h.2⟩, rfl, id⟩
  | cons a s =>
    rw [if_neg (by simp), drop1_off (l := n.lf.toList) (fun x hx => by rw [h.1 x (by simpa using hx)]; simp)]
    obtain ⟨i1, i2, _, i4⟩ := Ed.del_ok (E := n.kids) (a := a) (s := s) h.2
    exact ⟨⟨h.1, i1⟩, by rw [i2]; rfl, fun hc => (i4 hc).1⟩

/-! ### Deleting under a text -/
def Ed.cut : Ed → Bs → Ed × Bool
  | .nil, _ => (.nil, false)
  | .cons c lf pre k r, s =>
    if s.head? = some c then
      if s.isPrefixOf pre then (.cons c none pre .nil r, true)
      else if pre.isPrefixOf s then
        if (k.cut (s.drop pre.length)).2 then
          (.cons c (Nd.tidy ⟨lf, pre, (k.cut (s.drop pre.length)).1⟩).lf (Nd.tidy ⟨lf, pre, (k.cut (s.drop pre.length)).1⟩).pre (Nd.tidy ⟨lf, pre, (k.cut (s.drop pre.length)).1⟩).kids r, false)
        else (.cons c lf pre (k.cut (s.drop pre.length)).1 r, false)
      else (.cons c lf pre k r, false)
    else (.cons c lf pre k (r.cut s).1, (r.cut s).2)
def Nd.cut (n : Nd) (s : Bs) : Nd := if s = [] then { n with lf := none, kids := .nil } else { n with kids := (n.kids.cut s).1 }

theorem nund_app (a b : List Rw) (k : Bs) : nund (a ++ b) k = nund a k ++ nund b k := by simp [nund]
theorem nund_off {l : List Rw} {k : Bs} (h : ∀ x ∈ l, k.isPrefixOf x.1 = false) : nund l k = l := filter_all fun x hx => by rw [h x hx]; rfl
theorem nund_on {l : List Rw} {k : Bs} (h : ∀ x ∈ l, k.isPrefixOf x.1 = true) : nund l k = [] := filter_none fun x hx => by rw [h x hx]; rfl

theorem Ed.cut_ok : ∀ {E : Ed} {p : Bs} {a : UInt8} {s : Bs}, E.wf p →
    (E.cut (a :: s)).1.wf p ∧ (E.cut (a :: s)).1.ents = nund E.ents (p ++ a :: s) ∧ (∀ d, d ∈ (E.cut (a :: s)).1.labs → d ∈ E.labs)
  | .nil, _, _, _, _ => ⟨trivial, rfl, fun _ h => h⟩
  | .cons c lf pre k r, p, a, s, hw => by
    obtain ⟨h1, h2⟩ := Ed.heads hw
    have hw0 := hw
    obtain ⟨⟨t, ht⟩, hl, hkw, hr, hlab⟩ := hw
    have hE : (Ed.cons c lf pre k r).ents = (lf.toList ++ k.ents) ++ r.ents := by simp [Ed.ents]
    rw [hE, nund_app]
    unfold Ed.cut
    by_cases h : a = c
    · subst h
      rw [if_pos (show (a :: s).head? = some a from rfl), nund_off (l := r.ents) (fun x hx => by
        obtain ⟨d, w, hd, hw⟩ := h2 x hx
        rw [hw]; exact pfx_lab _ _ _ (ne_of_ltu hd))]
      by_cases hq : (a :: s).isPrefixOf pre = true
      · rw [if_pos hq, nund_on]
        · exact ⟨⟨⟨t, ht⟩, (fun x hx => by cases hx), trivial, hr, hlab⟩, by simp [Ed.ents], fun _ h => h⟩
        · intro x hx
          obtain ⟨w, hw, _⟩ := h1 x hx
          obtain ⟨u, hu⟩ := pfx_iff.1 hq
          rw [hw, hu]
          exact pfx_iff.2 ⟨u ++ w, by simp⟩
      · rw [if_neg hq]
        by_cases hp : pre.isPrefixOf (a :: s) = true
        · rw [if_pos hp]
          obtain ⟨u, hu⟩ := pfx_iff.1 hp
          have hd : (a :: s).drop pre.length = u := by rw [hu]; simp
          rw [hd, hu]
          cases u with
          | nil => exact absurd (by rw [hu, List.append_nil]; exact pfx_iff.2 ⟨[], by simp⟩) hq
          | cons b u =>
            rw [nund_app, nund_off (l := lf.toList) (fun x hx => by
              rw [hl x (by simpa using hx), ← List.append_assoc]; exact pfx_long _ _ _)]
            obtain ⟨i1, i2, _⟩ := Ed.cut_ok (E := k) (a := b) (s := u) hkw
            rw [List.append_assoc] at i2
            have hok : (Nd.mk lf pre (k.cut (b :: u)).1).ok p a := ⟨⟨t, ht⟩, hl, i1⟩
            cases hd2 : (k.cut (b :: u)).2 with
            | true =>
              rw [if_pos rfl]
              obtain ⟨g1, g2⟩ := Nd.tidy_ok hok
              refine ⟨Ed.wf_put hw0 g1, ?_, fun _ h => h⟩
              rw [Ed.ents_nd, g2, ← i2]; simp [Nd.ents]
            | false =>
              rw [if_neg (by simp)]
              refine ⟨Ed.wf_put hw0 hok, ?_, fun _ h => h⟩
              rw [← i2]; simp [Ed.ents]
        · rw [if_neg hp, nund_off (l := lf.toList ++ k.ents) (fun x hx => by
            obtain ⟨w, hw, _⟩ := h1 x hx
            rw [hw, List.append_assoc, pfx_app]
            exact pfx_par (Bool.eq_false_iff.2 hp) (Bool.eq_false_iff.2 hq) w)]
          exact ⟨hw0, by simp [Ed.ents], fun _ h => h⟩
    · rw [if_neg (by simpa using h), nund_off (l := lf.toList ++ k.ents) (fun x hx => by
        obtain ⟨w, _, hw⟩ := h1 x hx
        rw [hw]; exact pfx_lab _ _ _ h)]
      obtain ⟨i1, i2, i3⟩ := Ed.cut_ok (E := r) (a := a) (s := s) hr
      refine ⟨⟨⟨t, ht⟩, hl, hkw, i1, fun d hd => hlab d (i3 d hd)⟩, ?_, fun d hd => ?_⟩
      · rw [← i2]; simp [Ed.ents]
      · simp only [Ed.labs, List.mem_cons] at hd ⊢
        rcases hd with h | h
        · exact Or.inl h
        · exact Or.inr (i3 d h)

theorem Nd.cut_ok {n : Nd} {s : Bs} (h : n.wf []) : (n.cut s).wf [] ∧ (n.cut s).ents = nund n.ents s := by
  unfold Nd.cut Nd.ents
  rw [nund_app]
  cases s with
  | nil =>
    rw [if_pos rfl, nund_on (fun x _ => pfx_nil _), nund_on (fun x _ => pfx_nil _)]
    exact ⟨⟨(fun x hx => by cases hx), trivial⟩, rfl⟩
  | cons a s =>
    rw [if_neg (by simp), nund_off (l := n.lf.toList) (fun x hx => by rw [h.1 x (by simpa using hx)]; rfl)]
    obtain ⟨i1, i2, _⟩ := Ed.cut_ok (E := n.kids) (a := a) (s := s) h.2
    exact ⟨⟨h.1, i1⟩, by rw [i2]; rfl⟩

end Go.Proofs.Ytaidaohkbbdimaa

namespace Go.Proofs.Ytaidaohkbbdimaa

/-- An operation: 1 deletes a key, 2 deletes under a text, any other inserts. -/
structure Opr where
  kind : Int
  key : Bs
  val : Int

def step (l : List Rw) (o : Opr) : List Rw := if o.kind = 1 then drop1 l o.key else if o.kind = 2 then nund l o.key else put l o.key o.val
/-- What an operation returns: a number, a mark. -/
def got (l : List Rw) (o : Opr) : Int × Bool := if o.kind = 2 then ((und l o.key).length, false) else ((look l o.key).getD 0, (look l o.key).isSome)
def rowsFrom (l : List Rw) (ops : List Opr) : List Rw := ops.foldl step l
def rows (ops : List Opr) : List Rw := rowsFrom [] ops
def gotsFrom : List Rw → List Opr → List (Int × Bool)
  | _, [] => []
  | l, o :: r => got l o :: gotsFrom (step l o) r
def gots (ops : List Opr) : List (Int × Bool) := gotsFrom [] ops

theorem srt_step {l : List Rw} {o : Opr} (h : Srt l) : Srt (step l o) := by
  unfold step
  split
  · exact h.filter _
  · split
    · exact h.filter _
    · exact srt_put h
theorem srt_rowsFrom : ∀ {ops : List Opr} {l : List Rw}, Srt l → Srt (rowsFrom l ops)
  | [], _, h => h
  | _ :: ops, _, h => srt_rowsFrom (ops := ops) (srt_step h)
theorem srt_rows (ops : List Opr) : Srt (rows ops) := srt_rowsFrom Srt.nil
theorem rowsFrom_app (l : List Rw) (a b : List Opr) : rowsFrom l (a ++ b) = rowsFrom (rowsFrom l a) b := by simp [rowsFrom]
theorem rows_app (a b : List Opr) : rows (a ++ b) = rowsFrom (rows a) b := rowsFrom_app _ _ _
theorem rowsFrom_one (l : List Rw) (o : Opr) : rowsFrom l [o] = step l o := rfl
theorem rowsFrom_cons (l : List Rw) (o : Opr) (r : List Opr) : rowsFrom l (o :: r) = rowsFrom (step l o) r := rfl
theorem gotsFrom_app : ∀ (l : List Rw) (a b : List Opr), gotsFrom l (a ++ b) = gotsFrom l a ++ gotsFrom (rowsFrom l a) b
  | _, [], _ => rfl
  | l, o :: a, b => by simp [gotsFrom, rowsFrom_cons, gotsFrom_app (step l o) a b]
theorem gots_app (a b : List Opr) : gots (a ++ b) = gots a ++ gotsFrom (rows a) b := gotsFrom_app _ _ _
theorem len_gotsFrom : ∀ (l : List Rw) (a : List Opr), (gotsFrom l a).length = a.length
  | _, [] => rfl
  | l, o :: a => by simp [gotsFrom, len_gotsFrom (step l o) a]
theorem len_gots (a : List Opr) : (gots a).length = a.length := len_gotsFrom _ _
theorem len_put (l : List Rw) (k : Bs) (v : Int) : (put l k v).length ≤ l.length + 1 := by
  induction l with
  | nil => simp [put]
  | cons x l ih =>
    unfold put
    split
    · simp; exact ih
    · split <;> simp
theorem len_step (l : List Rw) (o : Opr) : (step l o).length ≤ l.length + 1 := by
  unfold step
  split
  · exact Nat.le_trans (List.length_filter_le _ _) (by omega)
  · split
    · exact Nat.le_trans (List.length_filter_le _ _) (by omega)
    · exact len_put _ _ _
theorem len_rowsFrom : ∀ (ops : List Opr) (l : List Rw), (rowsFrom l ops).length ≤ l.length + ops.length
  | [], _ => by simp [rowsFrom]
  | o :: ops, l => by
    have h1 := len_step l o
    have h2 := len_rowsFrom ops (step l o)
    rw [rowsFrom_cons]; simp; omega
theorem len_rows (ops : List Opr) : (rows ops).length ≤ ops.length := by
  have := len_rowsFrom ops []
  unfold rows; simpa using this

/-! ### A tree does what the list does -/
def Nd.step (n : Nd) (o : Opr) : Nd := if o.kind = 1 then n.del o.key else if o.kind = 2 then n.cut o.key else n.ins o.key o.key o.val
def Nd.empty : Nd := ⟨none, [], .nil⟩
theorem Nd.empty_wf : Nd.empty.wf [] := ⟨fun _ h => (by cases h), trivial⟩
theorem Nd.step_ok {n : Nd} {o : Opr} (h : n.wf []) : (n.step o).wf [] ∧ (n.step o).ents = Ytaidaohkbbdimaa.step n.ents o ∧ (o.kind ≠ 2 → n.kids.cmp → (n.step o).kids.cmp) := by
  unfold Nd.step Ytaidaohkbbdimaa.step
  split
  · exact ⟨(Nd.del_ok h).1, (Nd.del_ok h).2.1, fun _ => (Nd.del_ok h).2.2⟩
  · split
    · rename_i e
      exact ⟨(Nd.cut_ok h).1, (Nd.cut_ok h).2, fun hn => absurd e hn⟩
    · exact ⟨(Nd.ins_ok h).1, (Nd.ins_ok h).2.1, fun _ => (Nd.ins_ok h).2.2⟩
def Nd.run (n : Nd) (ops : List Opr) : Nd := ops.foldl Nd.step n
theorem Nd.run_ok : ∀ {ops : List Opr} {n : Nd}, n.wf [] → (n.run ops).wf [] ∧ (n.run ops).ents = rowsFrom n.ents ops ∧ ((∀ o ∈ ops, o.kind ≠ 2) → n.kids.cmp → (n.run ops).kids.cmp)
  | [], _, h => ⟨h, rfl, fun _ h => h⟩
  | o :: ops, n, h => by
    obtain ⟨h1, h2, h3⟩ := Nd.step_ok (o := o) h
    obtain ⟨g1, g2, g3⟩ := Nd.run_ok (ops := ops) h1
    refine ⟨g1, ?_, fun hn hc => g3 (fun x hx => hn x (by simp [hx])) (h3 (hn o (by simp)) hc)⟩
    rw [rowsFrom_cons, ← h2]; exact g2

/-! ### Facts on rows -/
theorem mem_drop1 {l : List Rw} {k : Bs} {x : Rw} : x ∈ drop1 l k ↔ x ∈ l ∧ x.1 ≠ k := by simp [drop1, List.mem_filter]
theorem mem_und {l : List Rw} {k : Bs} {x : Rw} : x ∈ und l k ↔ x ∈ l ∧ k.isPrefixOf x.1 = true := List.mem_filter
theorem mem_nund {l : List Rw} {k : Bs} {x : Rw} : x ∈ nund l k ↔ x ∈ l ∧ k.isPrefixOf x.1 = false := by unfold nund; rw [List.mem_filter]; simp
theorem mem_abv {l : List Rw} {k : Bs} {x : Rw} : x ∈ abv l k ↔ x ∈ l ∧ x.1.isPrefixOf k = true := List.mem_filter

def putOp (r : Rw) : Opr := ⟨0, r.1, r.2⟩
def dropOp (r : Rw) : Opr := ⟨1, r.1, 0⟩
theorem step_put (l : List Rw) (r : Rw) : step l (putOp r) = put l r.1 r.2 := by simp [step, putOp]
theorem step_drop (l : List Rw) (r : Rw) : step l (dropOp r) = drop1 l r.1 := by simp [step, dropOp]

theorem mem_puts : ∀ {rs l : List Rw}, Srt l → rs.Pairwise (fun a b => a.1 ≠ b.1) → ∀ {x : Rw}, x ∈ rowsFrom l (rs.map putOp) ↔ x ∈ rs ∨ (x ∈ l ∧ ∀ y ∈ rs, y.1 ≠ x.1)
  | [], l, _, _, x => by simp [rowsFrom]
  | r :: rs, l, h, hd, x => by
    rw [List.map_cons, rowsFrom_cons, step_put]
    have hd' := List.pairwise_cons.1 hd
    rw [mem_puts (srt_put h) hd'.2, mem_put h]
    constructor
    · rintro (h1 | ⟨h1 | ⟨h1, h2⟩, h3⟩)
      · exact Or.inl (by simp [h1])
      · exact Or.inl (by rw [h1]; simp)
      · refine Or.inr ⟨h1, fun y hy => ?_⟩
        rcases List.mem_cons.1 hy with rfl | hy
        · exact h2.symm
        · exact h3 y hy
    · rintro (h1 | ⟨h1, h2⟩)
      · rcases List.mem_cons.1 h1 with h1 | h1
        · exact Or.inr ⟨Or.inl h1, fun y hy => by rw [h1]; exact (hd'.1 y hy).symm⟩
        · exact Or.inl h1
      · exact Or.inr ⟨Or.inr ⟨h1, (h2 r (by simp)).symm⟩, fun y hy => h2 y (by simp [hy])⟩
theorem mem_drops : ∀ {rs l : List Rw} {x : Rw}, x ∈ rowsFrom l (rs.map dropOp) ↔ x ∈ l ∧ ∀ y ∈ rs, y.1 ≠ x.1
  | [], l, x => by simp [rowsFrom]
  | r :: rs, l, x => by
    rw [List.map_cons, rowsFrom_cons, step_drop, mem_drops, mem_drop1]
    constructor
    · rintro ⟨⟨h1, h2⟩, h3⟩
      refine ⟨h1, fun y hy => ?_⟩
      rcases List.mem_cons.1 hy with rfl | hy
      · exact h2.symm
      · exact h3 y hy
    · rintro ⟨h1, h2⟩
      exact ⟨⟨h1, (h2 r (by simp)).symm⟩, fun y hy => h2 y (by simp [hy])⟩
theorem srt_distinct {l : List Rw} (h : Srt l) : l.Pairwise fun a b => a.1 ≠ b.1 := h.imp fun h => h.ne

/-- The rows of a list's own insertions, in whatever order. -/
theorem rows_perm {l rs : List Rw} (h : Srt l) (hd : rs.Pairwise fun a b => a.1 ≠ b.1) (hm : ∀ x, x ∈ rs ↔ x ∈ l) : rows (rs.map putOp) = l :=
  srt_ext (srt_rows _) h fun x => by
    unfold rows
    rw [mem_puts Srt.nil hd]
    simp [hm]
theorem rows_own {l : List Rw} (h : Srt l) : rows (l.map putOp) = l := rows_perm h (srt_distinct h) fun _ => Iff.rfl
theorem rows_rev {l : List Rw} (h : Srt l) : rows (l.reverse.map putOp) = l :=
  rows_perm h (by rw [List.pairwise_reverse]; exact (srt_distinct h).imp fun h => h.symm) fun x => List.mem_reverse
theorem rowsFrom_own {l : List Rw} (h : Srt l) : rowsFrom l (l.map putOp) = l :=
  srt_ext (srt_rowsFrom h) h fun x => by
    rw [mem_puts h (srt_distinct h)]
    constructor
    · rintro (h1 | ⟨h1, _⟩) <;> exact h1
    · exact Or.inl
theorem drop1_put {l : List Rw} (h : Srt l) (k : Bs) (v : Int) : drop1 (put l k v) k = drop1 l k :=
  srt_ext ((srt_put h).filter _) (h.filter _) fun x => by
    rw [mem_drop1, mem_drop1, mem_put h]
    constructor
    · rintro ⟨h1 | h1, h2⟩
      · exact absurd (by rw [h1]) h2
      · exact h1
    · rintro ⟨h1, h2⟩
      exact ⟨Or.inr ⟨h1, h2⟩, h2⟩
theorem drop1_none {l : List Rw} {k : Bs} (h : look l k = none) : drop1 l k = l := drop1_off (look_none.1 h)
theorem look_drop1 (l : List Rw) (k : Bs) : look (drop1 l k) k = none := look_none.2 fun _ hx => (mem_drop1.1 hx).2
theorem len_drop1 {l : List Rw} (h : Srt l) (k : Bs) : (drop1 l k).length + (if (look l k).isSome then 1 else 0) = l.length := by
  induction l with
  | nil => rfl
  | cons x l ih =>
    have hx := srt_cons.1 h
    have ih := ih hx.2
    by_cases e : x.1 = k
    · have h1 : look (x :: l) k = some x.2 := by simp [look, e]
      have h2 : drop1 (x :: l) k = l := by
        unfold drop1
        rw [List.filter_cons_of_neg (by simp [e])]
        exact filter_all fun y hy => by have := (hx.1 y hy).ne; simp [← e, this.symm]
      rw [h1, h2]; simp
    · have h1 : look (x :: l) k = look l k := by simp [look, e]
      have h2 : drop1 (x :: l) k = x :: drop1 l k := by unfold drop1; rw [List.filter_cons_of_pos (by simp [e])]
      rw [h1, h2, List.length_cons, List.length_cons]; omega
theorem drops_all (l : List Rw) : rowsFrom l (l.map dropOp) = [] := by
  refine List.eq_nil_iff_forall_not_mem.2 fun x hx => ?_
  rw [mem_drops] at hx
  exact hx.2 x hx.1 rfl
theorem drops_und {l : List Rw} (h : Srt l) (s : Bs) : rowsFrom l ((und l s).map dropOp) = nund l s :=
  srt_ext (srt_rowsFrom h) (h.filter _) fun x => by
    rw [mem_drops, mem_nund]
    constructor
    · rintro ⟨h1, h2⟩
      refine ⟨h1, ?_⟩
      cases e : s.isPrefixOf x.1 with
      | false => rfl
      | true => exact absurd rfl (h2 x (mem_und.2 ⟨h1, e⟩))
    · rintro ⟨h1, h2⟩
      refine ⟨h1, fun y hy e => ?_⟩
      have := (mem_und.1 hy).2
      rw [e, h2] at this; cases this
theorem und_nund (l : List Rw) (s : Bs) : und (nund l s) s = [] := by
  refine List.eq_nil_iff_forall_not_mem.2 fun x hx => ?_
  have h1 := (mem_und.1 hx).2
  have h2 := (mem_nund.1 (mem_und.1 hx).1).2
  rw [h1] at h2; cases h2
theorem len_parts (l : List Rw) (s : Bs) : (nund l s).length + (und l s).length = l.length := by
  induction l with
  | nil => rfl
  | cons x l ih =>
    unfold nund und at *
    rw [List.filter_cons, List.filter_cons]
    cases e : s.isPrefixOf x.1 <;> simp <;> omega
theorem und_nil (l : List Rw) : und l [] = l := filter_all fun _ _ => pfx_nil _
theorem parts_rows {l : List Rw} (h : Srt l) (s : Bs) : rows ((und l s).map putOp ++ (nund l s).map putOp) = l := by
  rw [← List.map_append]
  refine rows_perm h ?_ fun x => ?_
  · rw [List.pairwise_append]
    refine ⟨(srt_distinct (h.filter _)), (srt_distinct (h.filter _)), fun x hx y hy e => ?_⟩
    have h1 := (mem_und.1 hx).2
    have h2 := (mem_nund.1 hy).2
    rw [e, h2] at h1; cases h1
  · rw [List.mem_append, mem_und, mem_nund]
    cases e : s.isPrefixOf x.1 <;> simp

/-- The last of the rows above a key that is there is its own. -/
theorem abv_last {l : List Rw} (h : Srt l) {s : Bs} {v : Int} (hm : (s, v) ∈ l) : (abv l s).getLast? = some (s, v) := by
  have hs : Srt (abv l s) := h.filter _
  have hm' : (s, v) ∈ abv l s := mem_abv.2 ⟨hm, pfx_iff.2 ⟨[], by simp⟩⟩
  obtain ⟨a, b, e⟩ := List.append_of_mem hm'
  rw [e] at hs ⊢
  cases b with
  | nil => simp
  | cons y b =>
    have h1 := (srt_cons.1 (srt_append.1 hs).2.1).1 y (by simp)
    have h2 : y ∈ abv l s := by rw [e]; simp
    obtain ⟨u, hu⟩ := pfx_iff.1 (mem_abv.1 h2).2
    cases u with
    | nil => rw [List.append_nil] at hu; exact absurd hu h1.ne
    | cons c u =>
      have h3 := kl_pre y.1 c u
      rw [← hu] at h3
      exact (h1.asymm h3).elim

/-! ### A text ahead of all keys -/
def mv (s : Bs) (r : Rw) : Rw := (s ++ r.1, r.2)
def mvOp (s : Bs) (o : Opr) : Opr := ⟨o.kind, s ++ o.key, o.val⟩
theorem put_mv (s : Bs) (k : Bs) (v : Int) : ∀ (l : List Rw), put (l.map (mv s)) (s ++ k) v = (put l k v).map (mv s)
  | [] => rfl
  | x :: l => by
    rw [List.map_cons, put, put]
    have e : (mv s x).1 = s ++ x.1 := rfl
    rw [e, bl_app, put_mv s k v l]
    by_cases h1 : Op.bytesLess x.1 k = true
    · rw [if_pos h1, if_pos h1]; rfl
    · rw [if_neg h1, if_neg h1]
      by_cases h2 : x.1 = k
      · rw [if_pos (by rw [h2]), if_pos h2]; rfl
      · rw [if_neg (fun e => h2 (List.append_cancel_left e)), if_neg h2]; rfl
theorem step_mv (s : Bs) (l : List Rw) (o : Opr) : step (l.map (mv s)) (mvOp s o) = (step l o).map (mv s) := by
  unfold step mvOp
  dsimp only
  split
  · unfold drop1
    rw [List.filter_map]
    congr 1
    refine List.filter_congr fun x _ => ?_
    show (!(s ++ x.1 == s ++ o.key)) = _
    congr 1
    rw [Bool.eq_iff_iff]
    simp
  · split
    · unfold nund
      rw [List.filter_map]
      congr 1
      refine List.filter_congr fun x _ => ?_
      show (!((s ++ o.key).isPrefixOf (s ++ x.1))) = _
      rw [pfx_app]
    · exact put_mv s o.key o.val l
theorem rowsFrom_mv (s : Bs) : ∀ (ops : List Opr) (l : List Rw), rowsFrom (l.map (mv s)) (ops.map (mvOp s)) = (rowsFrom l ops).map (mv s)
  | [], _ => rfl
  | o :: ops, l => by rw [List.map_cons, rowsFrom_cons, rowsFrom_cons, step_mv, rowsFrom_mv s ops]
theorem rows_mv (s : Bs) (ops : List Opr) : rows (ops.map (mvOp s)) = (rows ops).map (mv s) := rowsFrom_mv s ops []
theorem und_mv (s : Bs) (l : List Rw) : und (l.map (mv s)) s = l.map (mv s) := by
  refine filter_all fun x hx => ?_
  obtain ⟨y, _, rfl⟩ := List.mem_map.1 hx
  exact pfx_self _ _

end Go.Proofs.Ytaidaohkbbdimaa

namespace Go.Proofs.Ytaidaohkbbdimaa

theorem Ed.find_lab : ∀ {E : Ed} {c : UInt8} {n : Nd}, E.find c = some n → c ∈ E.labs
  | .nil, _, _, h => by cases h
  | .cons d lf pre k r, c, n, h => by
    unfold Ed.find at h
    by_cases hd : d = c
    · simp [Ed.labs, hd]
    · rw [if_neg hd] at h
      simp [Ed.labs, Ed.find_lab h]
theorem Ed.find_ok : ∀ {E : Ed} {p : Bs} {c : UInt8} {n : Nd}, E.wf p → E.find c = some n → n.ok p c
  | .nil, _, _, _, _, h => by cases h
  | .cons d lf pre k r, p, c, n, hw, h => by
    unfold Ed.find at h
    by_cases hd : d = c
    · subst hd
      rw [if_pos rfl] at h
      injection h with h
      subst h
      exact Ed.ok_of hw
    · rw [if_neg hd] at h
      exact Ed.find_ok hw.2.2.2.1 h

/-! ### Insertion -/
theorem Ed.ins_none : ∀ {E : Ed} {p : Bs} {a : UInt8} {s key : Bs} {v : Int}, E.wf p → E.find a = none → E.ins (a :: s) key v = E.add a ⟨some (key, v), a :: s, .nil⟩
  | .nil, _, _, _, _, _, _, _ => rfl
  | .cons c lf pre k r, p, a, s, key, v, hw, h => by
    unfold Ed.find at h
    by_cases hc : c = a
    · rw [if_pos hc] at h; cases h
    · rw [if_neg hc] at h
      rw [Ed.ins_cons]
      by_cases h1 : c < a
      · rw [if_pos h1, Ed.ins_none hw.2.2.2.1 h, Ed.add, if_pos h1]
      · rw [if_neg h1, if_neg hc, Ed.add, if_neg h1]
theorem Ed.ins_some : ∀ {E : Ed} {p : Bs} {a : UInt8} {s key : Bs} {v : Int} {n : Nd}, E.wf p → E.find a = some n →
    E.ins (a :: s) key v = E.set a (if lcp (a :: s) n.pre = n.pre.length then n.ins ((a :: s).drop n.pre.length) key v else n.split (a :: s) key v)
  | .nil, _, _, _, _, _, _, _, h => by cases h
  | .cons c lf pre k r, p, a, s, key, v, n, hw, h => by
    unfold Ed.find at h
    rw [Ed.ins_cons]
    by_cases hc : c = a
    · subst hc
      rw [if_pos rfl] at h
      injection h with h
      subst h
      rw [if_neg (UInt8.lt_irrefl _), if_pos rfl, Ed.set, if_pos rfl]
      by_cases h3 : lcp (c :: s) pre = pre.length
      · rw [if_pos h3]
        simp only [if_pos h3]
        rw [h3]
        unfold Nd.ins
        by_cases h4 : (c :: s).drop pre.length = []
        · rw [if_pos h4, if_pos h4]
        · rw [if_neg h4, if_neg h4]
      · rw [if_neg h3]
        simp only [if_neg h3]
    · rw [if_neg hc] at h
      have hlt : c < a := hw.2.2.2.2 a (Ed.find_lab h)
      rw [if_pos hlt, Ed.set, if_neg hc, Ed.ins_some hw.2.2.2.1 h]

/-! ### Search -/
theorem Ed.get_none : ∀ {E : Ed} {a : UInt8} {s : Bs}, E.find a = none → E.get (a :: s) = none
  | .nil, _, _, _ => rfl
  | .cons c lf pre k r, a, s, h => by
    unfold Ed.find at h
    by_cases hc : c = a
    · rw [if_pos hc] at h; cases h
    · rw [if_neg hc] at h
      rw [Ed.get, if_neg (by simpa using fun e : a = c => hc e.symm)]
      exact Ed.get_none h
theorem Ed.get_some : ∀ {E : Ed} {a : UInt8} {s : Bs} {n : Nd}, E.find a = some n → E.get (a :: s) = if n.pre.isPrefixOf (a :: s) then n.get ((a :: s).drop n.pre.length) else none
  | .nil, _, _, _, h => by cases h
  | .cons c lf pre k r, a, s, n, h => by
    unfold Ed.find at h
    by_cases hc : c = a
    · subst hc
      rw [if_pos rfl] at h
      injection h with h
      subst h
      rw [Ed.get, if_pos (show (c :: s).head? = some c from rfl)]
      rfl
    · rw [if_neg hc] at h
      rw [Ed.get, if_neg (by simpa using fun e : a = c => hc e.symm)]
      exact Ed.get_some h
theorem Ed.abv_none : ∀ {E : Ed} {a : UInt8} {s : Bs}, E.find a = none → E.abv (a :: s) = []
  | .nil, _, _, _ => rfl
  | .cons c lf pre k r, a, s, h => by
    unfold Ed.find at h
    by_cases hc : c = a
    · rw [if_pos hc] at h; cases h
    · rw [if_neg hc] at h
      rw [Ed.abv, if_neg (by simpa using fun e : a = c => hc e.symm)]
      exact Ed.abv_none h
theorem Ed.abv_nil : ∀ {E : Ed}, E.abv [] = []
  | .nil => rfl
  | .cons c lf pre k r => by
    rw [Ed.abv, if_neg (by simp)]
    exact Ed.abv_nil
theorem Ed.abv_some : ∀ {E : Ed} {a : UInt8} {s : Bs} {n : Nd}, E.find a = some n → E.abv (a :: s) = if n.pre.isPrefixOf (a :: s) then n.abv ((a :: s).drop n.pre.length) else []
  | .nil, _, _, _, h => by cases h
  | .cons c lf pre k r, a, s, n, h => by
    unfold Ed.find at h
    by_cases hc : c = a
    · subst hc
      rw [if_pos rfl] at h
      injection h with h
      subst h
      rw [Ed.abv, if_pos (show (c :: s).head? = some c from rfl)]
      rfl
    · rw [if_neg hc] at h
      rw [Ed.abv, if_neg (by simpa using fun e : a = c => hc e.symm)]
      exact Ed.abv_some h
theorem Ed.und_none : ∀ {E : Ed} {a : UInt8} {s : Bs}, E.find a = none → E.und (a :: s) = []
  | .nil, _, _, _ => rfl
  | .cons c lf pre k r, a, s, h => by
    unfold Ed.find at h
    by_cases hc : c = a
    · rw [if_pos hc] at h; cases h
    · rw [if_neg hc] at h
      rw [Ed.und, if_neg (by simpa using fun e : a = c => hc e.symm)]
      exact Ed.und_none h
theorem Ed.und_some : ∀ {E : Ed} {a : UInt8} {s : Bs} {n : Nd}, E.find a = some n →
    E.und (a :: s) = if n.pre.isPrefixOf (a :: s) then n.und ((a :: s).drop n.pre.length) else if (a :: s).isPrefixOf n.pre then n.ents else []
  | .nil, _, _, _, h => by cases h
  | .cons c lf pre k r, a, s, n, h => by
    unfold Ed.find at h
    by_cases hc : c = a
    · subst hc
      rw [if_pos rfl] at h
      injection h with h
      subst h
      rw [Ed.und, if_pos (show (c :: s).head? = some c from rfl)]
      rfl
    · rw [if_neg hc] at h
      rw [Ed.und, if_neg (by simpa using fun e : a = c => hc e.symm)]
      exact Ed.und_some h

/-! ### Deletion -/
/-- A deletion below a node that is not the root. -/
def Nd.delSub (n : Nd) (s : Bs) : Nd := if (n.kids.del s).2 then Nd.tidy ⟨n.lf, n.pre, (n.kids.del s).1⟩ else ⟨n.lf, n.pre, (n.kids.del s).1⟩
def Nd.cutSub (n : Nd) (s : Bs) : Nd := if (n.kids.cut s).2 then Nd.tidy ⟨n.lf, n.pre, (n.kids.cut s).1⟩ else ⟨n.lf, n.pre, (n.kids.cut s).1⟩
/-- What becomes of the edges when the child of a label loses its entry. -/
def Ed.drop (E : Ed) (a : UInt8) (n : Nd) : Ed := match n.kids with
  | .nil => E.cut1 a
  | .cons .. => E.set a (Nd.merge ⟨none, n.pre, n.kids⟩)

theorem Ed.set_self : ∀ {E : Ed} {a : UInt8} {n : Nd}, E.find a = some n → E.set a n = E
  | .nil, _, _, _ => rfl
  | .cons c lf pre k r, a, n, h => by
    unfold Ed.find at h
    by_cases hc : c = a
    · rw [if_pos hc] at h
      injection h with h
      subst h
      rw [Ed.set, if_pos hc]
    · rw [if_neg hc] at h
      rw [Ed.set, if_neg hc, Ed.set_self h]
theorem Ed.del_cons (c : UInt8) (lf : Option Rw) (pre : Bs) (k r : Ed) (s : Bs) : (Ed.cons c lf pre k r).del s =
    if s.head? = some c then
      if pre.isPrefixOf s then
        if s.drop pre.length = [] then
          match lf, k with
          | none, _ => (.cons c lf pre k r, false)
          | some _, .nil => (r, true)
          | some _, .cons a l q j t => (.cons c (Nd.merge ⟨none, pre, .cons a l q j t⟩).lf (Nd.merge ⟨none, pre, .cons a l q j t⟩).pre (Nd.merge ⟨none, pre, .cons a l q j t⟩).kids r, true)
        else if (k.del (s.drop pre.length)).2 then
          (.cons c (Nd.tidy ⟨lf, pre, (k.del (s.drop pre.length)).1⟩).lf (Nd.tidy ⟨lf, pre, (k.del (s.drop pre.length)).1⟩).pre (Nd.tidy ⟨lf, pre, (k.del (s.drop pre.length)).1⟩).kids r, false)
        else (.cons c lf pre (k.del (s.drop pre.length)).1 r, false)
      else (.cons c lf pre k r, false)
    else (.cons c lf pre k (r.del s).1, (r.del s).2) := by
  rw [Ed.del.eq_def] <;> rfl
theorem Ed.del_none : ∀ {E : Ed} {a : UInt8} {s : Bs}, E.find a = none → E.del (a :: s) = (E, false)
  | .nil, _, _, _ => rfl
  | .cons c lf pre k r, a, s, h => by
    unfold Ed.find at h
    by_cases hc : c = a
    · rw [if_pos hc] at h; cases h
    · rw [if_neg hc] at h
      rw [Ed.del_cons, if_neg (by simpa using fun e : a = c => hc e.symm), Ed.del_none h]
theorem Ed.del_some : ∀ {E : Ed} {a : UInt8} {s : Bs} {n : Nd}, E.find a = some n →
    E.del (a :: s) = if n.pre.isPrefixOf (a :: s) then
        (if (a :: s).drop n.pre.length = [] then (match n.lf with | none => (E, false) | some _ => (E.drop a n, true))
         else (E.set a (n.delSub ((a :: s).drop n.pre.length)), false))
      else (E, false)
  | .nil, _, _, _, h => by cases h
  | .cons c lf pre k r, a, s, n, h => by
    unfold Ed.find at h
    by_cases hc : c = a
    · subst hc
      rw [if_pos rfl] at h
      injection h with h
      subst h
      rw [Ed.del_cons, if_pos (show (c :: s).head? = some c from rfl)]
      dsimp only
      split
      · split
        · cases lf with
          | none => rfl
          | some x =>
            cases k with
            | nil => simp [Ed.drop, Ed.cut1]
            | cons => simp [Ed.drop, Ed.set]
        · unfold Nd.delSub
          dsimp only
          split <;> simp [Ed.set]
      · rfl
    · rw [if_neg hc] at h
      rw [Ed.del_cons, if_neg (by simpa using fun e : a = c => hc e.symm), Ed.del_some h]
      split
      · split
        · split
          · rfl
          · have : (Ed.cons c lf pre k r).drop a n = .cons c lf pre k (r.drop a n) := by
              unfold Ed.drop
              split
              · rw [Ed.cut1, if_neg hc]
              · rw [Ed.set, if_neg hc]
            rw [this]
        · rw [Ed.set, if_neg hc]
      · rfl
theorem Ed.cut_none : ∀ {E : Ed} {a : UInt8} {s : Bs}, E.find a = none → E.cut (a :: s) = (E, false)
  | .nil, _, _, _ => rfl
  | .cons c lf pre k r, a, s, h => by
    unfold Ed.find at h
    by_cases hc : c = a
    · rw [if_pos hc] at h; cases h
    · rw [if_neg hc] at h
      rw [Ed.cut, if_neg (by simpa using fun e : a = c => hc e.symm), Ed.cut_none h]
theorem Ed.cut_some : ∀ {E : Ed} {a : UInt8} {s : Bs} {n : Nd}, E.find a = some n →
    E.cut (a :: s) = if (a :: s).isPrefixOf n.pre then (E.set a ⟨none, n.pre, .nil⟩, true)
      else if n.pre.isPrefixOf (a :: s) then (E.set a (n.cutSub ((a :: s).drop n.pre.length)), false)
      else (E, false)
  | .nil, _, _, _, h => by cases h
  | .cons c lf pre k r, a, s, n, h => by
    unfold Ed.find at h
    by_cases hc : c = a
    · subst hc
      rw [if_pos rfl] at h
      injection h with h
      subst h
      rw [Ed.cut, if_pos (show (c :: s).head? = some c from rfl)]
      dsimp only
      split
      · simp [Ed.set]
      · split
        · unfold Nd.cutSub
          dsimp only
          split <;> simp [Ed.set]
        · rfl
    · rw [if_neg hc] at h
      rw [Ed.cut, if_neg (by simpa using fun e : a = c => hc e.symm), Ed.cut_some h]
      split
      · rw [Ed.set, if_neg hc]
      · split
        · rw [Ed.set, if_neg hc]
        · rfl

end Go.Proofs.Ytaidaohkbbdimaa

namespace Go.Proofs.Ytaidaohkbbdimaa

/-- No path below a node whose own path has length n is longer than M. -/
def Ed.dep (M : Nat) : Nat → Ed → Prop
  | _, .nil => True
  | n, .cons _ _ pre k r => n + pre.length ≤ M ∧ Ed.dep M (n + pre.length) k ∧ Ed.dep M n r
def Nd.dep (M n : Nat) (m : Nd) : Prop := n + m.pre.length ≤ M ∧ m.kids.dep M (n + m.pre.length)

theorem Ed.dep_cons {M n : Nat} {c : UInt8} {m : Nd} {r : Ed} : (Ed.cons c m.lf m.pre m.kids r).dep M n ↔ m.dep M n ∧ r.dep M n :=
  ⟨fun h => ⟨⟨h.1, h.2.1⟩, h.2.2⟩, fun h => ⟨h.1.1, h.1.2, h.2⟩⟩
theorem Ed.dep_find {M : Nat} : ∀ {E : Ed} {n : Nat} {c : UInt8} {m : Nd}, E.dep M n → E.find c = some m → m.dep M n
  | .nil, _, _, _, _, h => by cases h
  | .cons d lf pre k r, n, c, m, hd, h => by
    unfold Ed.find at h
    by_cases hc : d = c
    · rw [if_pos hc] at h
      injection h with h
      subst h
      exact ⟨hd.1, hd.2.1⟩
    · rw [if_neg hc] at h
      exact Ed.dep_find hd.2.2 h
theorem Ed.dep_set {M : Nat} : ∀ {E : Ed} {n : Nat} {c : UInt8} {m : Nd}, E.dep M n → m.dep M n → (E.set c m).dep M n
  | .nil, _, _, _, _, _ => trivial
  | .cons d lf pre k r, n, c, m, hd, h => by
    unfold Ed.set
    by_cases hc : d = c
    · rw [if_pos hc]; exact ⟨h.1, h.2, hd.2.2⟩
    · rw [if_neg hc]; exact ⟨hd.1, hd.2.1, Ed.dep_set hd.2.2 h⟩
theorem Ed.dep_add {M : Nat} : ∀ {E : Ed} {n : Nat} {c : UInt8} {m : Nd}, E.dep M n → m.dep M n → (E.add c m).dep M n
  | .nil, _, _, _, _, h => ⟨h.1, h.2, trivial⟩
  | .cons d lf pre k r, n, c, m, hd, h => by
    unfold Ed.add
    by_cases hc : d < c
    · rw [if_pos hc]; exact ⟨hd.1, hd.2.1, Ed.dep_add hd.2.2 h⟩
    · rw [if_neg hc]; exact ⟨h.1, h.2, hd⟩
theorem Ed.dep_cut1 {M : Nat} : ∀ {E : Ed} {n : Nat} {c : UInt8}, E.dep M n → (E.cut1 c).dep M n
  | .nil, _, _, _ => trivial
  | .cons d lf pre k r, n, c, hd => by
    unfold Ed.cut1
    by_cases hc : d = c
    · rw [if_pos hc]; exact hd.2.2
    · rw [if_neg hc]; exact ⟨hd.1, hd.2.1, Ed.dep_cut1 hd.2.2⟩
theorem Nd.dep_merge {M n : Nat} {m : Nd} (h : m.dep M n) : m.merge.dep M n := by
  unfold Nd.merge
  split
  · rename_i c lf pre k e
    have hk := h.2
    rw [e] at hk
    refine ⟨by simp only [List.length_append]; have := hk.1; omega, ?_⟩
    have := hk.2.1
    simp only [List.length_append]
    rwa [← Nat.add_assoc]
  · exact h
theorem Nd.dep_tidy {M n : Nat} {m : Nd} (h : m.dep M n) : m.tidy.dep M n := by
  unfold Nd.tidy
  split
  · exact Nd.dep_merge h
  · exact h
theorem Nd.dep_split {M n : Nat} {m : Nd} {s key : Bs} {v : Int} (h : m.dep M n) (hs : n + s.length ≤ M) : (m.split s key v).dep M n := by
  have h1 := lcp_le_l s m.pre
  have h2 := lcp_le_r s m.pre
  have hold : (Ed.nil.add ((m.pre.drop (lcp s m.pre)).headD 0) ⟨m.lf, m.pre.drop (lcp s m.pre), m.kids⟩).dep M (n + lcp s m.pre) := by
    refine Ed.dep_add trivial ⟨?_, ?_⟩
    · have := h.1; simp only [List.length_drop]; omega
    · have := h.2; simp only [List.length_drop]
      rw [show n + lcp s m.pre + (m.pre.length - lcp s m.pre) = n + m.pre.length by omega]; exact this
  unfold Nd.split
  split
  · refine ⟨by simp only [List.length_take]; omega, ?_⟩
    simp only [List.length_take, Nat.min_eq_left h1]
    exact hold
  · refine ⟨by simp only [List.length_take]; omega, ?_⟩
    simp only [List.length_take, Nat.min_eq_left h1]
    refine Ed.dep_add hold ⟨?_, trivial⟩
    simp only [List.length_drop]; omega
theorem Ed.dep_ins {M : Nat} : ∀ {E : Ed} {n : Nat} {a : UInt8} {s key : Bs} {v : Int}, E.dep M n → n + (a :: s).length ≤ M → (E.ins (a :: s) key v).dep M n
  | .nil, n, a, s, key, v, _, hs => ⟨hs, trivial, trivial⟩
  | .cons c lf pre k r, n, a, s, key, v, h, hs => by
    rw [Ed.ins_cons]
    split
    · exact ⟨h.1, h.2.1, Ed.dep_ins h.2.2 hs⟩
    · split
      · split
        · rename_i hl
          split
          · exact h
          · rename_i hne
            refine ⟨h.1, ?_, h.2.2⟩
            cases e : (a :: s).drop (lcp (a :: s) pre) with
            | nil => exact absurd e hne
            | cons b u =>
              refine Ed.dep_ins h.2.1 ?_
              have h1 := lcp_le_l (a :: s) pre
              have := congrArg List.length e
              simp only [List.length_drop] at this
              omega
        · exact Ed.dep_cons.2 ⟨Nd.dep_split (m := ⟨lf, pre, k⟩) ⟨h.1, h.2.1⟩ hs, h.2.2⟩
      · exact ⟨hs, trivial, h⟩
theorem Nd.dep_ins {M : Nat} {m : Nd} {s : Bs} {v : Int} (h : m.kids.dep M 0) (hs : s.length ≤ M) : (m.ins s s v).kids.dep M 0 := by
  unfold Nd.ins
  split
  · exact h
  · rename_i hne
    cases s with
    | nil => exact absurd rfl hne
    | cons a s => exact Ed.dep_ins h (by omega)
theorem Ed.dep_del {M : Nat} : ∀ {E : Ed} {n : Nat} {s : Bs}, E.dep M n → (E.del s).1.dep M n
  | .nil, _, _, _ => trivial
  | .cons c lf pre k r, n, s, h => by
    rw [Ed.del_cons]
    split
    · split
      · split
        · split
          · exact h
          · exact h.2.2
          · exact Ed.dep_cons.2 ⟨Nd.dep_merge (m := ⟨none, pre, .cons _ _ _ _ _⟩) ⟨h.1, h.2.1⟩, h.2.2⟩
        · split
          · exact Ed.dep_cons.2 ⟨Nd.dep_tidy (m := ⟨lf, pre, _⟩) ⟨h.1, Ed.dep_del h.2.1⟩, h.2.2⟩
          · exact ⟨h.1, Ed.dep_del h.2.1, h.2.2⟩
      · exact h
    · exact ⟨h.1, h.2.1, Ed.dep_del h.2.2⟩
theorem Nd.dep_del {M : Nat} {m : Nd} {s : Bs} (h : m.kids.dep M 0) : (m.del s).kids.dep M 0 := by
  unfold Nd.del
  split
  · exact h
  · exact Ed.dep_del h
theorem Ed.dep_cut {M : Nat} : ∀ {E : Ed} {n : Nat} {s : Bs}, E.dep M n → (E.cut s).1.dep M n
  | .nil, _, _, _ => trivial
  | .cons c lf pre k r, n, s, h => by
    unfold Ed.cut
    split
    · split
      · exact ⟨h.1, trivial, h.2.2⟩
      · split
        · split
          · exact Ed.dep_cons.2 ⟨Nd.dep_tidy (m := ⟨lf, pre, _⟩) ⟨h.1, Ed.dep_cut h.2.1⟩, h.2.2⟩
          · exact ⟨h.1, Ed.dep_cut h.2.1, h.2.2⟩
        · exact h
    · exact ⟨h.1, h.2.1, Ed.dep_cut h.2.2⟩
theorem Nd.dep_cut {M : Nat} {m : Nd} {s : Bs} (h : m.kids.dep M 0) : (m.cut s).kids.dep M 0 := by
  unfold Nd.cut
  split
  · exact trivial
  · exact Ed.dep_cut h

end Go.Proofs.Ytaidaohkbbdimaa

namespace Go.Proofs.Ytaidaohkbbdimaa

/-- What a walk has met: the rows, and whether it was ended. -/
def vis (stop : List Rw → Bool) : List Rw → List Rw → List Rw × Bool
  | acc, [] => (acc, false)
  | acc, x :: r => if stop (acc ++ [x]) = true then (acc ++ [x], true) else vis stop (acc ++ [x]) r

theorem vis_nil (stop : List Rw → Bool) (acc : List Rw) : vis stop acc [] = (acc, false) := rfl
theorem vis_cons (stop : List Rw → Bool) (acc : List Rw) (x : Rw) (r : List Rw) : vis stop acc (x :: r) = if stop (acc ++ [x]) = true then (acc ++ [x], true) else vis stop (acc ++ [x]) r := rfl
theorem vis_app (stop : List Rw → Bool) : ∀ (a acc b : List Rw), vis stop acc (a ++ b) = if (vis stop acc a).2 = true then vis stop acc a else vis stop (vis stop acc a).1 b
  | [], acc, b => by simp [vis]
  | x :: a, acc, b => by
    rw [List.cons_append, vis_cons, vis_cons]
    split
    · rfl
    · exact vis_app stop a _ b
theorem vis_on {stop : List Rw → Bool} {a acc : List Rw} (b : List Rw) (h : (vis stop acc a).2 = false) : vis stop acc (a ++ b) = vis stop (vis stop acc a).1 b := by
  rw [vis_app, h]; rfl
theorem vis_end {stop : List Rw → Bool} {a acc : List Rw} (b : List Rw) (h : (vis stop acc a).2 = true) : vis stop acc (a ++ b) = vis stop acc a := by
  rw [vis_app, h]; rfl
theorem vis_len (stop : List Rw → Bool) : ∀ (a acc : List Rw), (vis stop acc a).1.length ≤ acc.length + a.length
  | [], acc => by simp [vis]
  | x :: a, acc => by
    rw [vis_cons]
    split
    · simp
    · have := vis_len stop a (acc ++ [x])
      simp at this ⊢; omega
theorem vis_never : ∀ (a acc : List Rw), vis (fun _ => false) acc a = (acc ++ a, false)
  | [], acc => by simp [vis]
  | x :: a, acc => by rw [vis_cons, if_neg (by simp), vis_never a]; simp

/-- At most so many rows, all if that is less than 1. -/
def first (l : List Rw) (most : Int) : List Rw := if most < 1 ∨ (l.length : Int) < most then l else l.take most.toNat

theorem vis_most (most : Int) : ∀ (r acc : List Rw), (vis (fun a => (a.length : Int) == most) acc r).1 = if most ≤ acc.length ∨ ((acc.length + r.length : Nat) : Int) < most then acc ++ r else acc ++ r.take (most.toNat - acc.length)
  | [], acc => by simp [vis]
  | x :: r, acc => by
    rw [vis_cons]
    have ih := vis_most most r (acc ++ [x])
    simp only [List.length_append, List.length_cons, List.length_nil] at ih ⊢
    by_cases h : ((acc.length + 1 : Nat) : Int) = most
    · rw [if_pos (by simpa using h), if_neg (by omega)]
      have e : most.toNat - acc.length = 0 + 1 := by omega
      rw [e, List.take_succ_cons, List.take_zero]
    · rw [if_neg (by simpa using h), ih]
      by_cases h1 : most ≤ acc.length ∨ ((acc.length + (r.length + 1) : Nat) : Int) < most
      · rw [if_pos (by omega), if_pos h1]; simp
      · rw [if_neg (by omega), if_neg h1]
        have e : most.toNat - acc.length = (most.toNat - (acc.length + 1)) + 1 := by omega
        rw [e, List.take_succ_cons]; simp
theorem vis_first (most : Int) (r : List Rw) : (vis (fun a => (a.length : Int) == most) [] r).1 = first r most := by
  rw [vis_most]
  unfold first
  simp only [List.length_nil, List.nil_append, Nat.zero_add, Nat.sub_zero]
  by_cases h : most < 1 ∨ (r.length : Int) < most
  · rw [if_pos h, if_pos (by omega)]
  · rw [if_neg h, if_neg (by omega)]
theorem first_all (l : List Rw) : first l 0 = l := by unfold first; rw [if_pos (Or.inl (by omega))]

end Go.Proofs.Ytaidaohkbbdimaa
