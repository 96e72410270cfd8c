/-
  The laws, part A: what their walks share; FnPrevious.
  The laws, part B: a row's frame: a slice of operations among the arguments; what is left behind a call that only makes new blocks.
-/
import Derived.Test.YtaidaohkbbdimaaWN
import Derived.Test.YtaidaohkbbdimaaRows
import Derived.WalkKit
import Derived.ProofKit
import Derived.OpenShut
import Derived.Deep.Slices
import Derived.Deep.Fields
import Derived.ChangeSame
import Derived.WideKeyArgs
namespace Go.Proofs.Ytaidaohkbbdimaa
open Go.RowKit

theorem fit_oks {ops : List Opr} (h : fit ops = true) : ops.length ≤ 300 ∧ ∀ o ∈ ops, o.key.length ≤ 200 := by
  unfold fit at h
  rw [Bool.and_eq_true, List.all_eq_true] at h
  exact ⟨of_decide_eq_true h.2, fun o ho => of_decide_eq_true (h.1 o ho)⟩
theorem fits1_len {ops : List Opr} (h : fits1 ops = true) : ops.length ≤ 2147483647 := by
  unfold fits1 at h
  rw [Bool.and_eq_true] at h
  exact of_decide_eq_true h.1
/-- A block that holds a list. -/
theorem rd_blk {α : Type} {w : World} {g : Nat} {ty : TypeId} {cs : Array Value} {f : α → List Value} {k : Nat} {l : List α} (hk : ∀ x, (f x).length = k) (h : Bk w g ty cs) (hc : cs.toList = flat f l) : Rd w k (some ⟨g, 0, none⟩) l.length (flat f l) := by
  refine ⟨flat_len hk l, fun _ => ⟨_, rfl, h.lt, fun j u hu => ?_⟩⟩
  rw [← hc] at hu
  have h2 := h.cell j
  have : (⟨g, 0, none⟩ : Addr).add j = ⟨g, j, none⟩ := by
    unfold Addr.add
    split
    · rename_i hj; subst hj; rfl
    · simp
  rw [this, h2]
  simpa using hu
theorem Gives.bel {α : Type} {f : α → List Value} {k : Nat} {w w' : World} {l : List α} {e : Ending} (h : Gives f k w l e w') : Below w.heap.size w w' := by
  obtain ⟨_, _, _, _, h⟩ := h
  exact h

/-- 'Then' of operations that are written out. -/
theorem then_lit {w : World} {A : Option Addr} {c n m : Nat} {ops b M : List Opr} {cs : Array Value} (hM : M = ops ++ b) (hR : Rd w 3 A n (flat opc ops)) (hn : n = ops.length) (hcs : cs.toList = flat opc b) (hl : ops.length + b.length ≤ 100000) (hm : m = b.length) :
    Calls Try.prog 22 #[.slice A n c, .slice (some ⟨w.heap.size, 0, none⟩) m m] (w.alloc (.cells cs 37)) (Gives opc 3 w M) := by
  subst hn
  subst hm
  have hb : Below w.heap.size w (w.alloc (.cells cs 37)) := (Below.refl _ w).alloc (Nat.le_refl _) _
  rw [hM]
  refine (then_any (c := c) (c2 := b.length) (hR.bel hb) (rd_blk opc_len (Bk.new w _ _) hcs) hl).mono ?_
  rintro e w' ⟨A', c', he, hr, hb'⟩
  exact ⟨A', c', he, hr, hb.trans (hb'.mono hb.size)⟩

theorem oks_fit {ops : List Opr} (h : ops.length ≤ 300 ∧ ∀ o ∈ ops, o.key.length ≤ 200) : ops.length ≤ 300 ∧ ∀ o ∈ ops, o.key.length ≤ 1000 := ⟨h.1, fun o ho => Nat.le_trans (h.2 o ho) (by omega)⟩
theorem oks_app {a b : List Opr} (ha : a.length ≤ 300 ∧ ∀ o ∈ a, o.key.length ≤ 1000) (hb : b.length ≤ 300) (hk : ∀ o ∈ b, o.key.length ≤ 1000) : Oks (a ++ b) :=
  ⟨by rw [List.length_append]; omega, fun o ho => (List.mem_append.1 ho).elim (ha.2 o) (hk o)⟩
theorem oks_of {a : List Opr} (ha : a.length ≤ 300 ∧ ∀ o ∈ a, o.key.length ≤ 1000) : Oks a := ⟨by omega, ha.2⟩

def putO (s : Bs) (v : Int) : Opr := ⟨0, s, v⟩
def delO (s : Bs) : Opr := ⟨1, s, 0⟩

end Go.Proofs.Ytaidaohkbbdimaa

namespace Go.Proofs.Ytaidaohkbbdimaa
open Go.ChangeShapes Go.WideShapes Go.ChangeAt Go.RowKit Go.Deep

theorem own : ownKnob Try.prog.godebug = none := by kernel_rfl
theorem laidOut : laidOutB Try.prog = true := by kernel_rfl

section
variable {H : Type} {enc : TypeId × Value → H} {P : Program}
/-- The row's post where nothing that was has turned. -/
theorem post_below {f : Func} {s : ChangeSpec} {apart fresh handsOn again : Bool} {W W' : World} {args : Array Value} {v : Value} {ds gs : List (DataW H)} {before pa pv : List MemPlace}
    (hW : DataW.Whole enc P f.params.toList s.vars apart W args.toList ds gs before)
    (hres : ∀ (b : Nat) (sp : Nat → Bool) (hd : Bool), DataW.TrodAll enc P W' b sp hd f.resultTypes.toList (v.resultList f.resultTypes.size) (s.fn H (ds ++ gs)).results [])
    (hargs : ∀ sp : Nat → Bool, (∀ p ∈ before, sp p.block = true) → DataW.TrodAll enc P W' 0 sp true f.params.toList args.toList (s.fn H (ds ++ gs)).args pa)
    (hvars : ∀ sp : Nat → Bool, (∀ p ∈ before, sp p.block = true) → DataW.TrodVars enc P W' sp s.vars (s.fn H (ds ++ gs)).vars pv)
    (hps : before = pa ++ pv) (hb : Below W.heap.size W W')
    (hok : ∀ (j : Nat) (t : TypeId) (r : Value), f.resultTypes[j]? = some t → (v.resultList f.resultTypes.size)[j]? = some r → Value.okWide P W' .any 0 t r) :
    s.post enc P f apart fresh handsOn again W args v W' := by
  have hlt : ∀ p ∈ before, p.block < W.heap.size := fun p hp => hW.lt p hp
  have hold : ∀ p ∈ before, (fun b => decide (b < W.heap.size)) p.block = true := fun p hp => by simpa using hlt p hp
  refine ⟨ds, gs, before, [], pa, pv, hW, hres _ _ _, hargs _ hold, hvars _ hold, World.keptBut_mono (fun p hp => ⟨hp, ?_⟩) (hb.frame (· ∈ before)), fun _ => ?_⟩
  · rw [hps, List.mem_append] at hp
    exact Or.inr hp
  · obtain ⟨_, _, _, _, _, hz, hn⟩ := hW
    refine ⟨hok, _, _, ([] ++ pa) ++ pv, ⟨[] ++ pa, pv, trodAll_append (hargs _ (fun _ _ => rfl)) (hres _ _ _), hvars _ (fun _ _ => rfl), rfl, ?_, ?_⟩, ?_⟩
    · intro b off hp
      have hin : MemPlace.cell b off ∈ before := by rw [hps]; simpa using hp
      rw [hb.frozen (hlt _ hin)]
      exact hz b off hin
    · intro ha
      have := hn ha
      rw [hps] at this
      simpa using this
    · intro p hp _
      rw [hps]
      simpa using hp
/-- The arguments read as they did. -/
theorem trodAll_stays (hl : laidOutB P = true) {W W' : World} {sp : Nat → Bool} (hb : Below W.heap.size W W') : ∀ {ts : List TypeId} {vs : List Value} {ds : List (DataW H)} {ps : List MemPlace},
    (∀ t ∈ ts, P.readableRec t = true ∧ t < P.types.size) → DataW.TrodAll enc P W 0 (fun _ => true) true ts vs ds ps → (∀ p ∈ ps, p.block < W.heap.size) → (∀ p ∈ ps, sp p.block = true) → DataW.TrodAll enc P W' 0 sp true ts vs ds ps
  | [], _, _, _, _, h, _, _ => by
    obtain ⟨rfl, rfl, rfl⟩ := trodAll_nil h
    exact trodAll_mk0
  | t :: ts, _, _, _, hr, h, hlt, hs => by
    obtain ⟨v, vs, d, ds, p, q, rfl, rfl, rfl, h1, h2⟩ := trodAll_cons h
    obtain ⟨hr1, hr2⟩ := hr t (by simp)
    exact trodAll_cons_mk (WideElems.Trod_stays hl hr1 hr2 h1 (fun x hx => hb.same (hlt x (by simp [hx]))) fun x hx => hs x (by simp [hx])) (trodAll_stays hl hb (fun t ht => hr t (by simp [ht])) h2 (fun x hx => hlt x (by simp [hx])) fun x hx => hs x (by simp [hx]))
end

theorem list_of {α : Type} {P : Nat → α → Prop} : ∀ n : Nat, (∀ i, i < n → ∃ o, P i o) → ∃ l : List α, l.length = n ∧ ∀ (i : Nat) (hi : i < l.length), P i l[i]
  | 0, _ => ⟨[], rfl, fun i hi => by simp at hi⟩
  | n + 1, h => by
    obtain ⟨l, hl, hp⟩ := list_of n fun i hi => h i (by omega)
    obtain ⟨o, ho⟩ := h n (by omega)
    refine ⟨l ++ [o], by simp [hl], fun i hi => ?_⟩
    by_cases hin : i < l.length
    · rw [List.getElem_append_left hin]; exact hp i hin
    · have e : i = n := by simp at hi; omega
      subst e
      rw [List.getElem_append_right (by omega)]
      simpa [hl] using ho

theorem cell_lt {w : World} {a : Addr} {v : Value} (h : w.cell? a = some v) : a.block < w.heap.size := by
  rcases Nat.lt_or_ge a.block w.heap.size with hlt | hge
  · exact hlt
  · unfold World.cell? at h
    rw [Array.getElem?_eq_none hge] at h
    cases h

section
variable {H : Type} {enc : TypeId × Value → H} {P : Program} {w : World} {base : Nat} {spare : Nat → Bool} {held : Bool}
/-- The fields of a record whose fields are of one cell each. -/
theorem open_rec {e : TypeId} {fs : Array Field} {k n : Nat} {a : Addr} {cs : List Value} {x : DataW H × List MemPlace} (he : P.underlying e = some (.struct fs)) (hone : oneCellFields P fs = true) (hk : fs.size = k)
    (hc : w.cells? base a k = some cs) (h : DataW.trod enc P w base spare held n e cs = some x) :
    ∃ n', ∀ (j : Nat) (f : Field), fs[j]? = some f → ∃ (v : Value) (y : DataW H × List MemPlace), w.cell? (a.add j) = some v ∧ DataW.trod enc P w base spare held n' f.type [v] = some y := by
  obtain ⟨ys, n', _, _, _, hyl, hf⟩ := DataW.trod_struct he h
  obtain ⟨_, hcl, hat⟩ := World.cells?_some hc
  refine ⟨n', fun j f hj => ?_⟩
  obtain ⟨ho, hk1⟩ := hone_of hone j f hj
  have hjl : j < fs.size := (Array.getElem?_eq_some_iff.1 hj).1
  have hcell := hat j (by omega)
  have hv : cs[j]? = some (cs[j]'(by omega)) := List.getElem?_eq_getElem (by omega)
  have h1 := hf j f hj
  rw [ho, hk1] at h1
  have hone' : (cs.drop j).take 1 = [cs[j]'(by omega)] := by
    rw [List.drop_eq_getElem_cons (by omega)]
    rfl
  rw [hone'] at h1
  have hys : ys[j]? = some (ys[j]'(by omega)) := List.getElem?_eq_getElem (by omega)
  exact ⟨_, _, by rw [hcell, hv], h1.trans hys⟩
end

section
variable {H : Type} {enc : TypeId × Value → H} {w : World}
theorem cells_op : Try.prog.cellsOf 37 = 3 := by kernel_rfl
set_option maxRecDepth 100000 in
theorem open_op {n : Nat} {a : Addr} {cs : List Value} {x : DataW H × List MemPlace} (hc : w.cells? 0 a 3 = some cs) (h : DataW.trod enc Try.prog w 0 (fun _ => true) true n 37 cs = some x) :
    ∃ o : Opr, ∀ (j : Nat) (hj : j < 3), w.cell? (a.add j) = some ((opc o)[j]'hj) := by
  obtain ⟨n', hf⟩ := open_rec Try.underlying37 (by kernel_rfl) rfl hc h
  obtain ⟨v0, y0, c0, t0⟩ := hf 0 _ rfl
  obtain ⟨v1, y1, c1, t1⟩ := hf 1 _ rfl
  obtain ⟨v2, y2, c2, t2⟩ := hf 2 _ rfl
  obtain ⟨i0, e0, _⟩ := DataW.trod_int Try.underlying3 t0
  obtain ⟨i1, e1, _⟩ := DataW.trod_string Try.underlying9 t1
  obtain ⟨i2, e2, _⟩ := DataW.trod_int Try.underlying3 t2
  simp only [List.cons.injEq, and_true] at e0 e1 e2
  subst e0
  subst e1
  subst e2
  refine ⟨⟨i0, i1.data.toList, i2⟩, fun j hj => ?_⟩
  match j, hj with
  | 0, _ => exact c0
  | 1, _ => rw [c1]; show _ = some (Value.string (ba i1.data.toList)); rw [ba_bs]
  | 2, _ => exact c2

set_option maxRecDepth 100000 in
theorem okWide_sl {v : Value} (hval : Value.okWide Try.prog w .any 0 31 v) : ∃ a len cap, v = .slice a len cap := okWide_slice Try.underlying31 hval

set_option maxRecDepth 100000 in
theorem open_ops {v : Value} {d : DataW H} {p : List MemPlace} (hval : Value.okWide Try.prog w .any 0 31 v) (h : DataW.Trod enc Try.prog w 0 (fun _ => true) true 31 v d p) :
    ∃ (A : Option Addr) (c : Nat) (ops : List Opr), v = .slice A ops.length c ∧ Rd w 3 A ops.length (flat opc ops) := by
  obtain ⟨a0, len, cap, rfl⟩ := okWide_sl hval
  obtain ⟨fuel, hf⟩ := h
  rcases open_slice Try.underlying31 hf with ⟨h0, _⟩ | ⟨a, len', cap', m, n, D, Pl, hcs, _, hl, _, hm, _, hi⟩
  · simp [Value.cells] at h0
    obtain ⟨rfl, rfl, rfl⟩ := h0
    exact ⟨none, 0, [], rfl, by simp [flat], fun h => absurd h (by simp)⟩
  · simp [Value.cells] at hcs
    obtain ⟨rfl, rfl, rfl⟩ := hcs
    simp at hm
    subst hm
    rw [cells_op] at hi
    obtain ⟨l, hll, hp⟩ := list_of (P := fun i (o : Opr) => ∀ (j : Nat) (hj : j < 3), w.cell? ((a.add (i * 3)).add j) = some ((opc o)[j]'hj)) len fun i hilt => by
      obtain ⟨cs', hc, ht⟩ := hi i (by omega)
      exact open_op hc ht
    subst hll
    refine ⟨some a, _, l, rfl, flat_len opc_len l, fun hn => ⟨a, rfl, ?_, fun j u hu => ?_⟩⟩
    · have := cell_lt (hp 0 hn 0 (by omega))
      rw [add_block, add_block] at this
      exact this
    · have hjl : j < l.length * 3 := by
        have := (List.getElem?_eq_some_iff.1 hu).1
        rw [flat_len opc_len] at this; exact this
      have hq : j / 3 < l.length := by omega
      have e : j = j / 3 * 3 + j % 3 := by omega
      have h3 := flat_get opc_len l (j / 3) (j % 3) hq (by omega)
      rw [← e, hu, List.getElem?_eq_getElem (by rw [opc_len]; omega)] at h3
      have h4 := hp (j / 3) hq (j % 3) (by omega)
      rw [add_add, ← e] at h4
      exact h4.trans h3.symm

set_option maxRecDepth 100000 in
/-- What a law's walk gives is what its row asks. -/
theorem law_post {f : Func} {s : ChangeSpec} {apart fresh handsOn again : Bool} {W W' : World} {args : Array Value} {ds gs : List (DataW H)} {before : List MemPlace} {e : Ending}
    (hW : DataW.Whole enc Try.prog f.params.toList s.vars apart W args.toList ds gs before) (hA : DataW.TrodAll enc Try.prog W 0 (fun _ => true) true f.params.toList args.toList ds before) (hv : s.vars = []) (hg : gs = [])
    (hr : ∀ t ∈ f.params.toList, Try.prog.readableRec t = true ∧ t < Try.prog.types.size) (hres : f.resultTypes = #[4]) (hs : s.fn H ds = { results := [.lit (.bool true)], args := ds })
    (ha : Ans W (.bool true) e W') : ∃ v, e = .returned v ∧ s.post enc Try.prog f apart fresh handsOn again W args v W' := by
  obtain ⟨rfl, hb⟩ := ha
  subst hg
  refine ⟨_, rfl, post_below (pa := before) (pv := []) hW (fun _ _ _ => ?_) (fun sp hsp => ?_) (fun _ _ => ?_) (by simp) hb ?_⟩
  · rw [List.append_nil, hs, hres]
    exact trodAll_cons_mk (shut_bool Try.underlying4 _) trodAll_mk0
  · rw [List.append_nil, hs]
    exact trodAll_stays laidOut hb hr hA (fun p hp => hW.lt p hp) hsp
  · rw [List.append_nil, hs, hv]; rfl
  · exact ok_one hres rfl (okWide_bool_mk Try.underlying4 _)
end

end Go.Proofs.Ytaidaohkbbdimaa
