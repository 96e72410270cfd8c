/-
  A tree of texts as it lies in memory: nodes, leaves and rows of edges with the numbers of their blocks; what of memory a tree takes up; what of it stays where other blocks are written.
  A subtree in its place: what of the tree is elsewhere, and what becomes of the whole where the subtree is turned.
-/
import Derived.Test.YtaidaohkbbdimaaPure
import Derived.Below
import Derived.Laws.OwnMore
import Derived.Deep.Draws
import Derived.Laws.Rows
namespace Go.Proofs.Ytaidaohkbbdimaa
open Go.RowKit

/-! ### A block that is known whole -/
def Bk (w : World) (g : Nat) (t : TypeId) (cs : Array Value) : Prop := w.heap[g]? = some (.cells cs t (0, 0))

section
variable {w w' : World} {g : Nat} {t : TypeId} {cs : Array Value}
theorem Bk.lt (h : Bk w g t cs) : g < w.heap.size := by
  rcases Nat.lt_or_ge g w.heap.size with hlt | hge
  · exact hlt
  · unfold Bk at h; rw [Array.getElem?_eq_none hge] at h; cases h
theorem Bk.cell (h : Bk w g t cs) (i : Nat) : w.cell? ⟨g, i, none⟩ = cs[i]? := cell_of_row w g i cs t (0, 0) h
theorem Bk.frozen (h : Bk w g t cs) (i : Nat) : w.frozen? ⟨g, i, none⟩ = false := by
  unfold Bk at h
  simp [World.frozen?, h]
theorem Bk.new (w : World) (t : TypeId) (cs : Array Value) : Bk (w.alloc (.cells cs t)) w.heap.size t cs := heap_alloc_new w _
theorem Bk.drewN (h : Bk w g t cs) (n : Nat) : Bk (w.drewN n) g t cs := h
theorem Bk.drew (h : Bk w g t cs) : Bk w.drew g t cs := h
theorem Bk.alloc (h : Bk w g t cs) (o : Obj) : Bk (w.alloc o) g t cs := (Below.heap_alloc w o g h.lt).trans h
theorem Bk.set_ (h : Bk w g t cs) (i : Nat) (u : Value) : Bk (w.setCell ⟨g, i, none⟩ u) g t (cs.setIfInBounds i u) := by
  unfold Bk at h ⊢
  simp [World.setCell, Array.getElem?_modify, h]
theorem Bk.far (h : Bk w g t cs) {p : Addr} (hp : g ≠ p.block) (u : Value) : Bk (w.setCell p u) g t cs := (Below.heap_setCell w p u g hp).trans h
theorem Bk.ne_ {g' : Nat} {t' : TypeId} {cs' : Array Value} (h : Bk w g t cs) (h' : Bk w g' t' cs') (hne : t ≠ t') : g ≠ g' := by
  rintro rfl
  unfold Bk at h h'
  rw [h] at h'
  injection h' with h'
  injection h' with _ ht
  exact hne ht
theorem Bk.of (h : Bk w g t cs) (e : w'.heap[g]? = w.heap[g]?) : Bk w' g t cs := e.trans h
end

/-- Only blocks of F and new ones have turned. -/
structure Mut (w w' : World) (F : List Nat) : Prop where
  os : w'.os = w.os
  tape : w'.tape = w.tape
  output : w'.output = w.output
  size : w.heap.size ≤ w'.heap.size
  block : ∀ b, b < w.heap.size → b ∉ F → w'.heap[b]? = w.heap[b]?

section
variable {a w w' : World} {F G : List Nat}
theorem Mut.refl (w : World) (F : List Nat) : Mut w w F := ⟨rfl, rfl, rfl, Nat.le_refl _, fun _ _ _ => rfl⟩
theorem Mut.drewN (h : Mut a w F) (n : Nat) : Mut a (w.drewN n) F := ⟨h.os, h.tape, h.output, h.size, h.block⟩
theorem Mut.drew (h : Mut a w F) : Mut a w.drew F := ⟨h.os, h.tape, h.output, h.size, h.block⟩
theorem Mut.alloc (h : Mut a w F) (o : Obj) : Mut a (w.alloc o) F :=
  ⟨h.os, h.tape, h.output, Nat.le_trans h.size (by simp), fun b hb hF => (Below.heap_alloc w o b (Nat.lt_of_lt_of_le hb h.size)).trans (h.block b hb hF)⟩
theorem Mut.setCell (h : Mut a w F) {p : Addr} (hp : p.block ∈ F ∨ a.heap.size ≤ p.block) (u : Value) : Mut a (w.setCell p u) F :=
  ⟨h.os, h.tape, h.output, by simpa [World.setCell] using h.size, fun b hb hF => (Below.heap_setCell w p u b (by
    rintro rfl
    rcases hp with hp | hp
    · exact hF hp
    · omega)).trans (h.block b hb hF)⟩
theorem Mut.mono (h : Mut a w F) (hFG : ∀ b ∈ F, b ∈ G) : Mut a w G := ⟨h.os, h.tape, h.output, h.size, fun b hb hG => h.block b hb fun hF => hG (hFG b hF)⟩
theorem Mut.trans (h : Mut a w F) (k : Mut w w' G) (hG : ∀ b ∈ G, b ∈ F ∨ a.heap.size ≤ b) : Mut a w' F :=
  ⟨k.os.trans h.os, k.tape.trans h.tape, k.output.trans h.output, Nat.le_trans h.size k.size, fun b hb hF => (k.block b (Nat.lt_of_lt_of_le hb h.size) (fun hb' => by
    rcases hG b hb' with h1 | h1
    · exact hF h1
    · omega)).trans (h.block b hb hF)⟩
theorem Mut.of_below (h : Below a.heap.size a w) : Mut a w F := ⟨h.os, h.tape, h.output, h.size, fun b hb _ => h.block b hb⟩
theorem Mut.below {B : Nat} (h : Mut a w F) (hF : ∀ b ∈ F, B ≤ b) (hB : B ≤ a.heap.size) : Below B a w :=
  ⟨h.os, h.tape, h.output, h.size, fun b hb => h.block b (Nat.lt_of_lt_of_le hb hB) fun hF' => by have := hF b hF'; omega⟩
theorem Mut.grown {row : Option Nat} (h : Mut a w F) (k : w.grownBy w' row) (hr : ∀ g, row = some g → g ∈ F ∨ a.heap.size ≤ g) : Mut a w' F :=
  h.trans (G := row.toList) ⟨k.os, k.tape, k.output, k.size, fun b hb hn => k.block b hb (fun e => hn (by simp [← e]))⟩ (fun b hb => hr b (by simpa using hb))
end

/-! ### Rows -/
theorem own_of {w w' : World} {base : Nat} {e : TypeId} {size : Nat} {v : Value} {n : Nat} {xs : List Value} (h : w.ownsRow base e size v n xs)
    (hb : ∀ b, v.ownBlock = some b → w'.heap[b]? = w.heap[b]?) : w'.ownsRow base e size v n xs := by
  refine ⟨h.1, ?_⟩
  rcases h.2 with hn | ⟨g, cap, cur, rfl, hb', hgg, rest⟩
  · exact .inl hn
  · exact .inr ⟨g, cap, cur, rfl, hb', (hb g rfl).trans hgg, rest⟩
theorem own_lt {w : World} {base : Nat} {e : TypeId} {size : Nat} {v : Value} {n : Nat} {xs : List Value} (h : w.ownsRow base e size v n xs) {b : Nat} (hb : v.ownBlock = some b) : b < w.heap.size := (h.lt b hb).2
theorem own_ne_bk {w : World} {base : Nat} {e t : TypeId} {size : Nat} {v : Value} {n g : Nat} {xs : List Value} {cs : Array Value} (h : w.ownsRow base e size v n xs) (hg : Bk w g t cs) (hne : e ≠ t) : v.ownBlock ≠ some g := by
  rcases h.2 with ⟨rfl, _⟩ | ⟨g', cap, cur, rfl, _, hh, _⟩
  · simp [Value.ownBlock]
  · intro he
    have : g' = g := by simpa [Value.ownBlock] using he
    subst this
    exact Bk.ne_ (t := e) hh hg hne rfl

/-! ### Edges as pairs of a label and a node's block -/
abbrev Pr := UInt8 × Nat
def prCells : List Pr → List Value
  | [] => []
  | x :: r => .int .u8 x.1.toNat :: .pointer (some ⟨x.2, 0, none⟩) :: prCells r
theorem len_prCells : ∀ (l : List Pr), (prCells l).length = l.length * 2
  | [] => rfl
  | _ :: r => by simp [prCells, len_prCells r]; omega
theorem prCells_app : ∀ (a b : List Pr), prCells (a ++ b) = prCells a ++ prCells b
  | [], _ => rfl
  | x :: a, b => by simp [prCells, prCells_app a b]
theorem prCells_lab : ∀ (l : List Pr) (i : Nat) (h : i < l.length), (prCells l)[2 * i]? = some (.int .u8 l[i].1.toNat)
  | [], _, h => by simp at h
  | x :: r, 0, _ => rfl
  | x :: r, i + 1, h => by
    have := prCells_lab r i (by simpa using h)
    rw [show 2 * (i + 1) = 2 * i + 1 + 1 by omega]
    simpa [prCells] using this
theorem prCells_ptr : ∀ (l : List Pr) (i : Nat) (h : i < l.length), (prCells l)[2 * i + 1]? = some (.pointer (some ⟨l[i].2, 0, none⟩))
  | [], _, h => by simp at h
  | x :: r, 0, _ => rfl
  | x :: r, i + 1, h => by
    have := prCells_ptr r i (by simpa using h)
    rw [show 2 * (i + 1) + 1 = 2 * i + 1 + 1 + 1 by omega]
    simpa [prCells] using this
/-- Labels ascend. -/
def Asc (l : List Pr) : Prop := l.Pairwise fun a b => a.1 < b.1
/-- How many labels are less. -/
def ix (l : List Pr) (c : UInt8) : Nat := (l.takeWhile fun x => decide (x.1 < c)).length
def prFind (l : List Pr) (c : UInt8) : Option Nat := (l.find? fun x => x.1 == c).map (·.2)
def prAdd : List Pr → Pr → List Pr
  | [], x => [x]
  | y :: r, x => if y.1 < x.1 then y :: prAdd r x else x :: y :: r

theorem ix_le (l : List Pr) (c : UInt8) : ix l c ≤ l.length := by
  unfold ix
  exact (List.takeWhile_sublist _).length_le
theorem ix_below : ∀ (l : List Pr) (c : UInt8) (i : Nat) (h : i < l.length), i < ix l c → l[i].1 < c
  | [], _, _, h, _ => by simp at h
  | x :: r, c, i, h, hi => by
    by_cases hx : x.1 < c
    · have e : ix (x :: r) c = ix r c + 1 := by simp [ix, hx]
      cases i with
      | zero => exact hx
      | succ i => exact ix_below r c i (by simpa using h) (by omega)
    · have e : ix (x :: r) c = 0 := by simp [ix, hx]
      omega
theorem ix_above : ∀ (l : List Pr) (c : UInt8), Asc l → ∀ (i : Nat) (h : i < l.length), ix l c ≤ i → ¬ l[i].1 < c
  | [], _, _, _, h, _ => by simp at h
  | x :: r, c, ha, i, h, hi => by
    have ha' := List.pairwise_cons.1 ha
    by_cases hx : x.1 < c
    · have e : ix (x :: r) c = ix r c + 1 := by simp [ix, hx]
      cases i with
      | zero => omega
      | succ i => exact ix_above r c ha'.2 i (by simpa using h) (by omega)
    · cases i with
      | zero => exact hx
      | succ i =>
        have hi' : i < r.length := by simpa using h
        have h1 := ha'.1 r[i] (List.getElem_mem hi')
        exact fun h2 => hx (UInt8.lt_trans h1 h2)
theorem prFind_some : ∀ {l : List Pr} {c : UInt8} {i : Nat}, Asc l → prFind l c = some i → ∃ h : ix l c < l.length, l[ix l c] = (c, i)
  | [], _, _, _, h => by simp [prFind] at h
  | x :: r, c, i, ha, h => by
    have ha' := List.pairwise_cons.1 ha
    by_cases hx : x.1 = c
    · have e : ix (x :: r) c = 0 := by
        have : ¬ x.1 < c := by rw [hx]; exact UInt8.lt_irrefl _
        simp [ix, this]
      have h' : x.2 = i := by simpa [prFind, hx] using h
      refine ⟨by rw [e]; simp, ?_⟩
      simp only [e, List.getElem_cons_zero]
      rw [← hx, ← h']
    · have h' : prFind r c = some i := by simpa [prFind, hx] using h
      obtain ⟨h1, h2⟩ := prFind_some ha'.2 h'
      have hlt : x.1 < c := by
        have := ha'.1 _ (List.getElem_mem h1)
        rw [h2] at this; exact this
      have e : ix (x :: r) c = ix r c + 1 := by simp [ix, hlt]
      refine ⟨by rw [e]; simpa using h1, ?_⟩
      simp only [e, List.getElem_cons_succ]
      exact h2
theorem prFind_none {l : List Pr} {c : UInt8} (h : prFind l c = none) : ∀ (hi : ix l c < l.length), l[ix l c].1 ≠ c := by
  intro hi e
  unfold prFind at h
  rw [Option.map_eq_none_iff, List.find?_eq_none] at h
  have := h _ (List.getElem_mem hi)
  simp [e] at this
theorem prAdd_mem : ∀ {l : List Pr} {x y : Pr}, y ∈ prAdd l x ↔ y = x ∨ y ∈ l
  | [], x, y => by simp [prAdd]
  | z :: r, x, y => by
    unfold prAdd
    split
    · rw [List.mem_cons, prAdd_mem, List.mem_cons]
      constructor
      · rintro (h | h | h)
        · exact Or.inr (Or.inl h)
        · exact Or.inl h
        · exact Or.inr (Or.inr h)
      · rintro (h | h | h)
        · exact Or.inr (Or.inl h)
        · exact Or.inl h
        · exact Or.inr (Or.inr h)
    · rw [List.mem_cons]
theorem prAdd_perm : ∀ (l : List Pr) (x : Pr), (prAdd l x).Perm (l ++ [x])
  | [], _ => List.Perm.refl _
  | y :: r, x => by
    unfold prAdd
    split
    · exact (prAdd_perm r x).cons y
    · have : (x :: y :: r).Perm ((y :: r) ++ [x]) := by
        have := List.perm_append_comm (l₁ := [x]) (l₂ := y :: r)
        exact this
      exact this
theorem prAdd_asc : ∀ {l : List Pr} {x : Pr}, Asc l → prFind l x.1 = none → Asc (prAdd l x)
  | [], _, _, _ => by simp [prAdd, Asc]
  | y :: r, x, ha, hf => by
    have ha' := List.pairwise_cons.1 ha
    have hy : y.1 ≠ x.1 := by
      intro e
      simp [prFind, e] at hf
    have hr : prFind r x.1 = none := by simpa [prFind, hy] using hf
    unfold prAdd
    split
    · rename_i h
      refine List.pairwise_cons.2 ⟨fun z hz => ?_, prAdd_asc ha'.2 hr⟩
      rcases prAdd_mem.1 hz with rfl | hz
      · exact h
      · exact ha'.1 z hz
    · rename_i h
      have h2 : x.1 < y.1 := by
        rcases UInt8.lt_or_lt_of_ne hy with h3 | h3
        · exact absurd h3 h
        · exact h3
      refine List.pairwise_cons.2 ⟨fun z hz => ?_, ha⟩
      rcases List.mem_cons.1 hz with rfl | hz
      · exact h2
      · exact UInt8.lt_trans h2 (ha'.1 z hz)
/-- Two ascending lists with the same edges are one. -/
theorem asc_perm : ∀ {a b : List Pr}, Asc a → Asc b → a.Perm b → a = b := fun ha hb h =>
  List.Perm.eq_of_pairwise (le := fun (a b : Pr) => a.1 < b.1) (fun _ _ _ _ h1 h2 => (UInt8.lt_irrefl _ (UInt8.lt_trans h1 h2)).elim) ha hb h

/-! ### Trees in memory -/
structure Lv where
  id : Nat
  key : ByteArray
  val : Int

inductive At where
  | nil : At
  | cons (id : Nat) (lab : UInt8) (lf : Option Lv) (pre : ByteArray) (ev : Value) (kids rest : At) : At

structure An where
  id : Nat
  lf : Option Lv
  pre : ByteArray
  ev : Value
  kids : At

def boxv (v : Int) : Value := .iface 3 (.int .i64 v)
def lptr : Option Lv → Value
  | none => .pointer none
  | some l => .pointer (some ⟨l.id, 0, none⟩)
def LfOk (w : World) : Option Lv → Prop
  | none => True
  | some l => Bk w l.id 94 #[.string l.key, boxv l.val]
def lfoot : Option Lv → List Nat
  | none => []
  | some l => [l.id]
def lrow (l : Lv) : Rw := (l.key.data.toList, l.val)

namespace At
def prs : At → List Pr
  | nil => []
  | cons id c _ _ _ _ r => (c, id) :: r.prs
def er : At → Ed
  | nil => .nil
  | cons _ c lf pre _ k r => .cons c (lf.map lrow) pre.data.toList k.er r.er
end At
/-- A node's own block, its leaf and its row of edges. -/
structure NdOk (w : World) (id : Nat) (lf : Option Lv) (pre : ByteArray) (ev : Value) (ps : List Pr) : Prop where
  blk : Bk w id 85 #[lptr lf, .string pre, ev]
  leaf : LfOk w lf
  row : w.ownsRow 0 99 2 ev ps.length (prCells ps)
def ownFoot (id : Nat) (lf : Option Lv) (ev : Value) : List Nat := id :: (lfoot lf ++ ev.ownBlock.toList)
namespace At
def ok (w : World) : At → Prop
  | nil => True
  | cons id _ lf pre ev k r => NdOk w id lf pre ev k.prs ∧ k.ok w ∧ r.ok w
def foot : At → List Nat
  | nil => []
  | cons id _ lf _ ev k r => ownFoot id lf ev ++ (k.foot ++ r.foot)
def find : At → UInt8 → Option An
  | nil, _ => none
  | cons id c lf pre ev k r, d => if c = d then some ⟨id, lf, pre, ev, k⟩ else r.find d
def set : At → UInt8 → An → At
  | nil, _, _ => nil
  | cons id c lf pre ev k r, d, n => if c = d then cons n.id c n.lf n.pre n.ev n.kids r else cons id c lf pre ev k (r.set d n)
def add : At → UInt8 → An → At
  | nil, c, n => cons n.id c n.lf n.pre n.ev n.kids nil
  | cons id d lf pre ev k r, c, n => if d < c then cons id d lf pre ev k (r.add c n) else cons n.id c n.lf n.pre n.ev n.kids (cons id d lf pre ev k r)
def cut1 : At → UInt8 → At
  | nil, _ => nil
  | cons id c lf pre ev k r, d => if c = d then r else cons id c lf pre ev k (r.cut1 d)
end At
namespace An
def ok (w : World) (n : An) : Prop := NdOk w n.id n.lf n.pre n.ev n.kids.prs ∧ n.kids.ok w
def foot (n : An) : List Nat := ownFoot n.id n.lf n.ev ++ n.kids.foot
def er (n : An) : Nd := ⟨n.lf.map lrow, n.pre.data.toList, n.kids.er⟩
end An

theorem LfOk.of {w w' : World} {lf : Option Lv} (h : LfOk w lf) (e : ∀ b ∈ lfoot lf, w'.heap[b]? = w.heap[b]?) : LfOk w' lf := by
  cases lf with
  | none => trivial
  | some l => exact Bk.of h (e l.id (by simp [lfoot]))
theorem LfOk.lt {w : World} {lf : Option Lv} (h : LfOk w lf) : ∀ b ∈ lfoot lf, b < w.heap.size := by
  cases lf with
  | none => simp [lfoot]
  | some l => intro b hb; simp [lfoot] at hb; subst hb; exact Bk.lt h
theorem NdOk.of {w w' : World} {id : Nat} {lf : Option Lv} {pre : ByteArray} {ev : Value} {ps : List Pr} (h : NdOk w id lf pre ev ps) (e : ∀ b ∈ ownFoot id lf ev, w'.heap[b]? = w.heap[b]?) : NdOk w' id lf pre ev ps :=
  ⟨Bk.of h.blk (e id (by simp [ownFoot])), h.leaf.of (fun b hb => e b (by simp [ownFoot, hb])), own_of h.row (fun b hb => e b (by simp [ownFoot, hb]))⟩
theorem NdOk.lt {w : World} {id : Nat} {lf : Option Lv} {pre : ByteArray} {ev : Value} {ps : List Pr} (h : NdOk w id lf pre ev ps) : ∀ b ∈ ownFoot id lf ev, b < w.heap.size := by
  intro b hb
  simp only [ownFoot, List.mem_cons, List.mem_append, Option.mem_toList] at hb
  rcases hb with rfl | hb | hb
  · exact h.blk.lt
  · exact h.leaf.lt b hb
  · exact own_lt h.row hb
theorem At.ok_of {w w' : World} : ∀ {T : At}, T.ok w → (∀ b ∈ T.foot, w'.heap[b]? = w.heap[b]?) → T.ok w'
  | .nil, _, _ => trivial
  | .cons _ _ _ _ _ _ _, h, e => ⟨h.1.of fun b hb => e b (by simp [foot, hb]), At.ok_of h.2.1 fun b hb => e b (by simp [foot, hb]), At.ok_of h.2.2 fun b hb => e b (by simp [foot, hb])⟩
theorem At.lt {w : World} : ∀ {T : At}, T.ok w → ∀ b ∈ T.foot, b < w.heap.size
  | .nil, _, b, hb => by simp [foot] at hb
  | .cons _ _ _ _ _ _ _, h, b, hb => by
    simp only [foot, List.mem_append] at hb
    rcases hb with hb | hb | hb
    · exact h.1.lt b hb
    · exact At.lt h.2.1 b hb
    · exact At.lt h.2.2 b hb
theorem An.ok_of {w w' : World} {n : An} (h : n.ok w) (e : ∀ b ∈ n.foot, w'.heap[b]? = w.heap[b]?) : n.ok w' :=
  ⟨h.1.of fun b hb => e b (by simp [foot, hb]), At.ok_of h.2 fun b hb => e b (by simp [foot, hb])⟩
theorem An.lt {w : World} {n : An} (h : n.ok w) : ∀ b ∈ n.foot, b < w.heap.size := by
  intro b hb
  rcases List.mem_append.1 hb with hb | hb
  · exact h.1.lt b hb
  · exact At.lt h.2 b hb
theorem An.keep {w w' : World} {n : An} {F : List Nat} (h : n.ok w) (m : Mut w w' F) (hF : ∀ b ∈ n.foot, b ∉ F) : n.ok w' := An.ok_of h fun b hb => m.block b (An.lt h b hb) (hF b hb)
theorem At.keep {w w' : World} {n : At} {F : List Nat} (h : n.ok w) (m : Mut w w' F) (hF : ∀ b ∈ n.foot, b ∉ F) : n.ok w' := At.ok_of h fun b hb => m.block b (At.lt h b hb) (hF b hb)
theorem An.bel {w w' : World} {n : An} (h : n.ok w) (m : Below w.heap.size w w') : n.ok w' := An.ok_of h fun b hb => m.block b (An.lt h b hb)
theorem At.bel {w w' : World} {n : At} (h : n.ok w) (m : Below w.heap.size w w') : n.ok w' := At.ok_of h fun b hb => m.block b (At.lt h b hb)

/-! ### What is forgotten -/
theorem At.er_find : ∀ (T : At) (c : UInt8), T.er.find c = (T.find c).map An.er
  | .nil, _ => rfl
  | .cons id d lf pre ev k r, c => by
    by_cases h : d = c
    · simp [h, er, Ed.find, find, An.er]
    · simp [h, er, Ed.find, find, At.er_find r c]
theorem At.er_set : ∀ (T : At) (c : UInt8) (n : An), (T.set c n).er = T.er.set c n.er
  | .nil, _, _ => rfl
  | .cons id d lf pre ev k r, c, n => by
    by_cases h : d = c
    · simp [h, er, Ed.set, set, An.er]
    · simp [h, er, Ed.set, set, At.er_set r c n]
theorem At.er_add : ∀ (T : At) (c : UInt8) (n : An), (T.add c n).er = T.er.add c n.er
  | .nil, _, _ => rfl
  | .cons id d lf pre ev k r, c, n => by
    by_cases h : d < c
    · simp [h, er, Ed.add, add, At.er_add r c n]
    · simp [h, er, Ed.add, add, An.er]
theorem At.er_cut1 : ∀ (T : At) (c : UInt8), (T.cut1 c).er = T.er.cut1 c
  | .nil, _ => rfl
  | .cons id d lf pre ev k r, c => by
    by_cases h : d = c
    · simp [h, er, Ed.cut1, cut1]
    · simp [h, er, Ed.cut1, cut1, At.er_cut1 r c]
theorem At.er_size : ∀ (T : At), T.er.size = T.prs.length
  | .nil => rfl
  | .cons _ _ _ _ _ _ r => by simp [er, Ed.size, prs, At.er_size r]
theorem At.er_labs : ∀ (T : At), T.er.labs = T.prs.map (·.1)
  | .nil => rfl
  | .cons _ _ _ _ _ _ r => by simp [er, Ed.labs, prs, At.er_labs r]
theorem Ed.wf_asc : ∀ {E : Ed} {p : Bs}, E.wf p → E.labs.Pairwise (· < ·)
  | .nil, _, _ => List.Pairwise.nil
  | .cons _ _ _ _ _, _, h => List.pairwise_cons.2 ⟨h.2.2.2.2, Ed.wf_asc h.2.2.2.1⟩
theorem At.asc {T : At} {p : Bs} (h : T.er.wf p) : Asc T.prs := by
  have := Ed.wf_asc h
  rw [At.er_labs, List.pairwise_map] at this
  exact this
theorem At.prs_find : ∀ (T : At) (c : UInt8), prFind T.prs c = (T.find c).map (·.id)
  | .nil, _ => rfl
  | .cons id d lf pre ev k r, c => by
    unfold find
    by_cases h : d = c
    · rw [if_pos h]; simp [prs, prFind, h]
    · rw [if_neg h, ← At.prs_find r c]; simp [prs, prFind, h]
theorem At.prs_set : ∀ {T : At} {c : UInt8} {n m : An}, T.find c = some n → m.id = n.id → (T.set c m).prs = T.prs
  | .nil, _, _, _, h, _ => by cases h
  | .cons id d lf pre ev k r, c, n, m, h, e => by
    unfold find at h
    unfold set
    by_cases hc : d = c
    · rw [if_pos hc] at h ⊢
      injection h with h
      subst h
      simp only at e
      simp [prs, e]
    · rw [if_neg hc] at h ⊢
      simp [prs, At.prs_set h e]
theorem At.prs_add : ∀ (T : At) (c : UInt8) (n : An), (T.add c n).prs = prAdd T.prs (c, n.id)
  | .nil, _, _ => rfl
  | .cons id d lf pre ev k r, c, n => by
    unfold add
    by_cases h : d < c
    · rw [if_pos h]; simp [prs, prAdd, h, At.prs_add r c n]
    · rw [if_neg h]; simp [prs, prAdd, h]

end Go.Proofs.Ytaidaohkbbdimaa

namespace Go.Proofs.Ytaidaohkbbdimaa
open Go.RowKit

/-- A child, and the blocks of the edges beside it. -/
theorem At.focus : ∀ {T : At} {c : UInt8} {a : An}, T.find c = some a →
    T.set c a = T ∧ (∀ w, T.ok w → a.ok w) ∧ ∃ R : List Nat, (∀ m : An, (T.set c m).foot.Perm (m.foot ++ R)) ∧
      (∀ (w w' : World) (m : An), T.ok w → (∀ b ∈ R, w'.heap[b]? = w.heap[b]?) → m.ok w' → (T.set c m).ok w')
  | .nil, _, _, h => by cases h
  | .cons id d lf pre ev k r, c, a, h => by
    unfold find at h
    by_cases hd : d = c
    · rw [if_pos hd] at h
      injection h with h
      subst h
      refine ⟨by simp [set, hd], fun w hw => ⟨hw.1, hw.2.1⟩, r.foot, fun m => ?_, fun w w' m hw hR hm => ?_⟩
      · simp only [set, if_pos hd, foot, An.foot]
        rw [List.append_assoc]
      · simp only [set, if_pos hd]
        exact ⟨hm.1, hm.2, At.ok_of hw.2.2 hR⟩
    · rw [if_neg hd] at h
      obtain ⟨h1, h2, R, h3, h4⟩ := At.focus h
      refine ⟨by simp [set, hd, h1], fun w hw => h2 w hw.2.2, ownFoot id lf ev ++ (k.foot ++ R), fun m => ?_, fun w w' m hw hR hm => ?_⟩
      · simp only [set, if_neg hd, foot]
        have h5 := h3 m
        have h6 : (ownFoot id lf ev ++ (k.foot ++ (r.set c m).foot)).Perm ((ownFoot id lf ev ++ k.foot) ++ (m.foot ++ R)) := by
          rw [← List.append_assoc]; exact List.Perm.append_left _ h5
        refine h6.trans ?_
        have h7 : ((ownFoot id lf ev ++ k.foot) ++ (m.foot ++ R)).Perm (m.foot ++ ((ownFoot id lf ev ++ k.foot) ++ R)) := by
          rw [← List.append_assoc, ← List.append_assoc]
          exact List.Perm.append_right _ List.perm_append_comm
        rw [← List.append_assoc (ownFoot id lf ev)]
        exact h7
      · simp only [set, if_neg hd]
        exact ⟨hw.1.of fun b hb => hR b (by simp [hb]), At.ok_of hw.2.1 fun b hb => hR b (by simp [hb]), h4 w w' m hw.2.2 (fun b hb => hR b (by simp [hb])) hm⟩

/-- The subtree 'sub' in its place in 'root': K puts another there, E does so with what is read of it; R: the blocks beside it. -/
structure Ctx (root sub : An) (R : List Nat) (K : An → An) (E : Nd → Nd) : Prop where
  self : K sub = root
  foot : ∀ m, (K m).foot.Perm (m.foot ++ R)
  ok : ∀ w, root.ok w → sub.ok w
  put : ∀ (w w' : World) (m : An), root.ok w → (∀ b ∈ R, w'.heap[b]? = w.heap[b]?) → m.ok w' → m.id = sub.id → (K m).ok w'
  id : ∀ m, m.id = sub.id → (K m).id = root.id
  er : ∀ m, (K m).er = E m.er

theorem Ctx.refl (n : An) : Ctx n n [] (fun m => m) (fun m => m) :=
  ⟨rfl, fun m => by simp, fun _ h => h, fun _ _ _ _ _ h _ => h, fun _ h => h, fun _ => rfl⟩
theorem Ctx.step {root n a : An} {R : List Nat} {K : An → An} {E : Nd → Nd} {c : UInt8} (h : Ctx root n R K E) (hf : n.kids.find c = some a) :
    ∃ R', Ctx root a (R' ++ R) (fun m => K { n with kids := n.kids.set c m }) (fun m => E { n.er with kids := n.er.kids.set c m }) ∧
      (∀ m : An, An.foot { n with kids := n.kids.set c m } |>.Perm (m.foot ++ R')) ∧
      (∀ (w w' : World) (m : An), n.ok w → (∀ b ∈ R', w'.heap[b]? = w.heap[b]?) → m.ok w' → m.id = a.id → An.ok w' { n with kids := n.kids.set c m }) := by
  obtain ⟨h1, h2, R1, h3, h4⟩ := At.focus hf
  have g1 : ∀ m : An, (An.foot { n with kids := n.kids.set c m }).Perm (m.foot ++ (ownFoot n.id n.lf n.ev ++ R1)) := fun m => by
    show (ownFoot n.id n.lf n.ev ++ (n.kids.set c m).foot).Perm _
    refine (List.Perm.append_left _ (h3 m)).trans ?_
    rw [← List.append_assoc, ← List.append_assoc]
    exact List.Perm.append_right _ List.perm_append_comm
  have g2 : ∀ (w w' : World) (m : An), n.ok w → (∀ b ∈ ownFoot n.id n.lf n.ev ++ R1, w'.heap[b]? = w.heap[b]?) → m.ok w' → m.id = a.id → An.ok w' { n with kids := n.kids.set c m } := fun w w' m hw hR hm hid => by
    refine ⟨?_, h4 w w' m hw.2 (fun b hb => hR b (by simp [hb])) hm⟩
    show NdOk w' n.id n.lf n.pre n.ev (n.kids.set c m).prs
    rw [At.prs_set hf hid]
    exact hw.1.of fun b hb => hR b (by simp [hb])
  refine ⟨ownFoot n.id n.lf n.ev ++ R1, ⟨?_, fun m => ?_, fun w hw => h2 w (h.ok w hw).2, fun w w' m hw hR hm hid => ?_, fun m hid => h.id _ rfl, fun m => ?_⟩, g1, g2⟩
  · show K { n with kids := n.kids.set c a } = root
    rw [h1]; exact h.self
  · refine (h.foot _).trans ?_
    refine (List.Perm.append_right R (g1 m)).trans ?_
    rw [List.append_assoc]
  · refine h.put w w' _ hw (fun b hb => hR b (by simp [hb])) ?_ rfl
    exact g2 w w' m (h.ok w hw) (fun b hb => hR b (by simp only [List.mem_append] at hb ⊢; exact Or.inl hb)) hm hid
  · rw [h.er]
    show E ⟨_, _, (n.kids.set c m).er⟩ = _
    rw [At.er_set]; rfl

/-- A tree turned in its own blocks and new ones. -/
structure Turn (w w' : World) (n n' : An) : Prop where
  ok : n'.ok w'
  id : n'.id = n.id
  turned : Mut w w' n.foot
  nodup : n'.foot.Nodup
  sub : ∀ b ∈ n'.foot, b ∈ n.foot ∨ w.heap.size ≤ b

theorem Turn.refl {w : World} {n : An} (h : n.ok w) (hn : n.foot.Nodup) : Turn w w n n := ⟨h, rfl, Mut.refl _ _, hn, fun _ hb => Or.inl hb⟩
/-- New blocks were laid before. -/
theorem Turn.behind {w w1 w' : World} {n n' : An} (hb : Below w.heap.size w w1) (h : Turn w1 w' n n') : Turn w w' n n' :=
  ⟨h.ok, h.id, (Mut.of_below hb).trans h.turned (fun _ hb => Or.inl hb), h.nodup, fun b hb' => (h.sub b hb').imp (fun h3 => h3) fun h2 => Nat.le_trans hb.size h2⟩
theorem Ctx.turn {w w' : World} {root sub sub' : An} {R : List Nat} {K : An → An} {E : Nd → Nd} (h : Ctx root sub R K E) (hok : root.ok w) (hn : root.foot.Nodup) (t : Turn w w' sub sub') : Turn w w' root (K sub') := by
  have hp := h.foot sub
  rw [h.self] at hp
  have hnd := (hp.nodup_iff.1 hn)
  rw [List.nodup_append] at hnd
  obtain ⟨_, hR, hdis⟩ := hnd
  have hlt := An.lt hok
  have hRlt : ∀ b ∈ R, b < w.heap.size := fun b hb => hlt b (hp.mem_iff.2 (by simp [hb]))
  refine ⟨h.put w w' sub' hok (fun b hb => t.turned.block b (hRlt b hb) fun hb' => hdis b hb' b hb rfl) t.ok t.id, h.id _ t.id, t.turned.mono fun b hb => hp.mem_iff.2 (by simp [hb]), ?_, fun b hb => ?_⟩
  · rw [(h.foot sub').nodup_iff, List.nodup_append]
    refine ⟨t.nodup, hR, fun x hx y hy e => ?_⟩
    subst e
    rcases t.sub x hx with h1 | h1
    · exact hdis x h1 x hy rfl
    · have := hRlt x hy; omega
  · rcases List.mem_append.1 ((h.foot sub').mem_iff.1 hb) with h1 | h1
    · exact (t.sub b h1).imp (fun h2 => hp.mem_iff.2 (by simp [h2])) (fun h3 => h3)
    · exact Or.inl (hp.mem_iff.2 (by simp [h1]))

end Go.Proofs.Ytaidaohkbbdimaa
