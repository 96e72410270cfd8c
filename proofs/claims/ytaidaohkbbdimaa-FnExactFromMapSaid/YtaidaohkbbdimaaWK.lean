/-
  Lists of plain records as slices: what a slice reads as; operations, rows and answers as cells.
  The walks, part K: New; number; do.
  The walks, part K2: do.
-/
import Derived.Test.YtaidaohkbbdimaaWD
import Derived.Test.YtaidaohkbbdimaaPure
import Derived.Deep.AppendLies
import Derived.Deep.RegionLaw
import Derived.Maps.AppendAt
import Derived.OwnWalk
import Derived.Test.YtaidaohkbbdimaaWH
import Derived.Test.YtaidaohkbbdimaaWE
import Derived.Laws.IdiomRangeMap
import Derived.LoopN
namespace Go.Proofs.Ytaidaohkbbdimaa
open Go.RowKit

/-! ### The cells of a list of records -/
section
variable {α : Type} {f : α → List Value} {k : Nat}
def flat (f : α → List Value) (l : List α) : List Value := l.flatMap f
theorem flat_nil : flat f [] = [] := rfl
theorem flat_cons (x : α) (r : List α) : flat f (x :: r) = f x ++ flat f r := by simp [flat]
theorem flat_app (a b : List α) : flat f (a ++ b) = flat f a ++ flat f b := by simp [flat]
theorem flat_len (h : ∀ x, (f x).length = k) : ∀ l : List α, (flat f l).length = l.length * k
  | [] => by simp [flat]
  | x :: r => by rw [flat_cons, List.length_append, h, flat_len h r, List.length_cons, Nat.succ_mul]; omega
theorem flat_get (h : ∀ x, (f x).length = k) : ∀ (l : List α) (i j : Nat) (hi : i < l.length), j < k → (flat f l)[i * k + j]? = (f l[i])[j]?
  | [], _, _, hi, _ => by simp at hi
  | x :: r, 0, j, _, hj => by
    rw [flat_cons, Nat.zero_mul, Nat.zero_add, List.getElem?_append_left (by rw [h]; exact hj)]; rfl
  | x :: r, i + 1, j, hi, hj => by
    rw [flat_cons, List.getElem?_append_right (by rw [h, Nat.succ_mul]; omega), h, show (i + 1) * k + j - k = i * k + j by rw [Nat.succ_mul]; omega]
    exact flat_get h r i j (by simpa using hi) hj
theorem flat_one (h : ∀ x, ∀ v ∈ f x, v.oneCell' = true) (l : List α) : ∀ v ∈ flat f l, v.oneCell' = true := by
  intro v hv
  obtain ⟨x, _, hx⟩ := List.mem_flatMap.1 hv
  exact h x v hx
theorem flat_drop (h : ∀ x, (f x).length = k) : ∀ (l : List α) (i : Nat), (flat f l).drop (i * k) = flat f (l.drop i)
  | l, 0 => by simp
  | [], i + 1 => by simp [flat]
  | x :: r, i + 1 => by
    rw [flat_cons, List.drop_succ_cons, ← flat_drop h r i, List.drop_append, h, List.drop_of_length_le (by rw [h, Nat.succ_mul]; omega), List.nil_append]
    congr 1; rw [Nat.succ_mul]; omega
theorem flat_take (h : ∀ x, (f x).length = k) : ∀ (l : List α) (i : Nat), (flat f l).take (i * k) = flat f (l.take i)
  | l, 0 => by simp [flat]
  | [], i + 1 => by simp [flat]
  | x :: r, i + 1 => by
    rw [flat_cons, List.take_succ_cons, flat_cons, ← flat_take h r i, List.take_append, h, List.take_of_length_le (by rw [h, Nat.succ_mul]; omega)]
    congr 2; rw [Nat.succ_mul]; omega
end

/-! ### A slice that reads as a list of records -/
/-- n records of k cells, the cells xs, lie at A. -/
def Rd (w : World) (k : Nat) (A : Option Addr) (n : Nat) (xs : List Value) : Prop :=
  xs.length = n * k ∧ (0 < n → ∃ ad, A = some ad ∧ ad.block < w.heap.size ∧ ∀ j u, xs[j]? = some u → w.cell? (ad.add j) = some u)

theorem add_block (a : Addr) (n : Nat) : (a.add n).block = a.block := by unfold Addr.add; split <;> rfl
section
variable {w w' : World} {k n : Nat} {A : Option Addr} {xs : List Value}
theorem Rd.bel (h : Rd w k A n xs) (hb : Below w.heap.size w w') : Rd w' k A n xs := by
  refine ⟨h.1, fun hn => ?_⟩
  obtain ⟨ad, e, hlt, hc⟩ := h.2 hn
  exact ⟨ad, e, Nat.lt_of_lt_of_le hlt hb.size, fun j u hu => (hb.cell (p := ad.add j) (by rw [add_block]; exact hlt)).trans (hc j u hu)⟩
theorem Rd.own {base c : Nat} {e : TypeId} (h : w.ownsRow base e k (.slice A n c) n xs) : Rd w k A n xs := by
  refine ⟨h.1, fun hn => ?_⟩
  obtain ⟨g, cap, hv, _, hlt⟩ := h.form hn
  have hA : A = some ⟨g, 0, none⟩ := by injection hv
  subst hA
  exact ⟨_, rfl, hlt, h.cells (g := g) rfl⟩
end

/-- A slice's value that reads as a list of records. -/
def Sl {α : Type} (f : α → List Value) (k : Nat) (w : World) (v : Value) (l : List α) : Prop := ∃ A c, v = .slice A l.length c ∧ Rd w k A l.length (flat f l)
section
variable {α : Type} {f : α → List Value} {k : Nat} {w w' : World} {v : Value} {l : List α}
theorem Sl.bel (h : Sl f k w v l) (hb : Below w.heap.size w w') : Sl f k w' v l := by
  obtain ⟨A, c, e, hr⟩ := h
  exact ⟨A, c, e, hr.bel hb⟩
theorem Sl.own {base : Nat} {e : TypeId} (hk : ∀ x, (f x).length = k) (h : w.ownsRow base e k v l.length (flat f l)) : Sl f k w v l := by
  have := hk
  rcases h.2 with ⟨rfl, hn⟩ | ⟨g, cap, cur, rfl, rest⟩
  · exact ⟨none, 0, by rw [hn], by rw [hn]; exact ⟨by have := h.1; rw [hn] at this; exact this, fun h => absurd h (by omega)⟩⟩
  · exact ⟨_, _, rfl, Rd.own h⟩
theorem Sl.nil {e : Value} (he : e = .slice none 0 0) : Sl f k w e ([] : List α) := ⟨none, 0, he, by simp [flat], fun h => absurd h (by simp)⟩
/-- The cells of the record i. -/
theorem Rd.at_ {A : Option Addr} (h : Rd w k A l.length (flat f l)) (hk : ∀ x, (f x).length = k) {i : Nat} (hi : i < l.length) :
    ∃ ad, A = some ad ∧ ad.block < w.heap.size ∧ ∀ (j : Nat) (hj : j < k), w.cell? (ad.add (i * k + j)) = some ((f l[i])[j]'(by rw [hk]; exact hj)) := by
  obtain ⟨ad, e, hlt, hc⟩ := h.2 (by omega)
  refine ⟨ad, e, hlt, fun j hj => hc _ _ ?_⟩
  rw [flat_get hk l i j hi hj, List.getElem?_eq_getElem]
end

/-! ### The records -/
def opc (o : Opr) : List Value := [.int .i64 o.kind, .string (ba o.key), .int .i64 o.val]
def rwc (x : Rw) : List Value := [.string (ba x.1), .int .i64 x.2]
def gtc (g : Int × Bool) : List Value := [.int .i64 g.1, .bool g.2]
theorem opc_len (o : Opr) : (opc o).length = 3 := rfl
theorem rwc_len (o : Rw) : (rwc o).length = 2 := rfl
theorem gtc_len (o : Int × Bool) : (gtc o).length = 2 := rfl
theorem opc_one (o : Opr) : ∀ v ∈ opc o, v.oneCell' = true := by
  intro v hv; simp [opc] at hv; rcases hv with rfl | rfl | rfl <;> rfl
theorem rwc_one (o : Rw) : ∀ v ∈ rwc o, v.oneCell' = true := by
  intro v hv; simp [rwc] at hv; rcases hv with rfl | rfl <;> rfl
theorem gtc_one (o : Int × Bool) : ∀ v ∈ gtc o, v.oneCell' = true := by
  intro v hv; simp [gtc] at hv; rcases hv with rfl | rfl <;> rfl
theorem info_op : (Try.prog.info? 37).map (fun i => (i.zero, i.size, i.bytes)) = some (some (.agg #[.int .i64 0, .string ⟨#[]⟩, .int .i64 0]), 3, 32) := by kernel_rfl
theorem info_row : (Try.prog.info? 28).map (fun i => (i.zero, i.size, i.bytes)) = some (some (.agg #[.string ⟨#[]⟩, .int .i64 0]), 2, 24) := by kernel_rfl
theorem info_got : (Try.prog.info? 39).map (fun i => (i.zero, i.size, i.bytes)) = some (some (.agg #[.int .i64 0, .bool false]), 2, 16) := by kernel_rfl
theorem ba_size (b : Bs) : (ba b).size = b.length := by show (b.toArray).size = _; simp

theorem add_off (a : Addr) (n j : Nat) (hj : 0 < j) : a.add (n + j) = ⟨(a.add n).block, (a.add n).off + j, none⟩ := by
  unfold Addr.add
  rw [if_neg (by omega)]
  split
  · rename_i h; subst h; simp
  · simp; omega
section
variable {w : World} {A : Option Addr} {i : Nat}
theorem Rd.op {l : List Opr} (h : Rd w 3 A l.length (flat opc l)) (hi : i < l.length) :
    ∃ ad, A = some ad ∧ ad.block < w.heap.size ∧ w.cell? (ad.add (i * 3)) = some (.int .i64 l[i].kind) ∧ w.cell? ⟨(ad.add (i * 3)).block, (ad.add (i * 3)).off + 1, none⟩ = some (.string (ba l[i].key)) ∧
      w.cell? ⟨(ad.add (i * 3)).block, (ad.add (i * 3)).off + 2, none⟩ = some (.int .i64 l[i].val) := by
  obtain ⟨ad, hA, hl, hc⟩ := h.at_ opc_len hi
  refine ⟨ad, hA, hl, hc 0 (by omega), ?_, ?_⟩
  · rw [← add_off _ _ 1 (by omega)]; exact hc 1 (by omega)
  · rw [← add_off _ _ 2 (by omega)]; exact hc 2 (by omega)
theorem Rd.rw_ {l : List Rw} (h : Rd w 2 A l.length (flat rwc l)) (hi : i < l.length) :
    ∃ ad, A = some ad ∧ ad.block < w.heap.size ∧ w.cell? (ad.add (i * 2)) = some (.string (ba l[i].1)) ∧ w.cell? ⟨(ad.add (i * 2)).block, (ad.add (i * 2)).off + 1, none⟩ = some (.int .i64 l[i].2) := by
  obtain ⟨ad, hA, hl, hc⟩ := h.at_ rwc_len hi
  refine ⟨ad, hA, hl, hc 0 (by omega), ?_⟩
  rw [← add_off _ _ 1 (by omega)]; exact hc 1 (by omega)
theorem Rd.gt_ {l : List (Int × Bool)} (h : Rd w 2 A l.length (flat gtc l)) (hi : i < l.length) :
    ∃ ad, A = some ad ∧ ad.block < w.heap.size ∧ w.cell? (ad.add (i * 2)) = some (.int .i64 l[i].1) ∧ w.cell? ⟨(ad.add (i * 2)).block, (ad.add (i * 2)).off + 1, none⟩ = some (.bool l[i].2) := by
  obtain ⟨ad, hA, hl, hc⟩ := h.at_ gtc_len hi
  refine ⟨ad, hA, hl, hc 0 (by omega), ?_⟩
  rw [← add_off _ _ 1 (by omega)]; exact hc 1 (by omega)
end

/-- A tree where other blocks have turned. -/
theorem Tr.keep {w w' : World} {t : Nat} {n : An} {F : List Nat} (h : Tr w t n) (m : Mut w w' F) (ht : t ∉ F) (hf : ∀ b ∈ n.foot, b ∉ F) : Tr w' t n :=
  ⟨h.blk.of (m.block t h.blk.lt ht), An.keep h.ok m hf, h.nodup, h.wf, h.dep⟩

end Go.Proofs.Ytaidaohkbbdimaa

namespace Go.Proofs.Ytaidaohkbbdimaa
open Go.RowKit

/-! ### New -/
/-- What New leaves. -/
def Newt (w : World) (e : Ending) (w' : World) : Prop := ∃ (t : Nat) (n : An), e = .returned (.pointer (some ⟨t, 0, none⟩)) ∧ Tr w' t n ∧ n.er = Nd.empty ∧ Below w.heap.size w w' ∧ w.heap.size ≤ t ∧ ∀ b ∈ n.foot, w.heap.size ≤ b

def newNode (w : World) : World := (w.alloc (.cells #[.pointer none, .string ⟨#[]⟩, .slice none 0 0] 85)).alloc (.cells #[.pointer (some ⟨w.heap.size, 0, none⟩), .int .i64 0] 87)
theorem newNode_ok (w w' : World) (hb : Below (w.heap.size + 2) (newNode w) w') : Newt w (.returned (.pointer (some ⟨w.heap.size + 1, 0, none⟩))) w' := by
  have hs : (newNode w).heap.size = w.heap.size + 2 := by unfold newNode; simp
  have h1 : Bk (newNode w) w.heap.size 85 #[.pointer none, .string ⟨#[]⟩, .slice none 0 0] := (Bk.new w _ _).alloc _
  have h2 : Bk (newNode w) (w.heap.size + 1) 87 #[.pointer (some ⟨w.heap.size, 0, none⟩), .int .i64 0] := by
    have := Bk.new (w.alloc (.cells #[.pointer none, .string ⟨#[]⟩, .slice none 0 0] 85)) 87 #[.pointer (some ⟨w.heap.size, 0, none⟩), .int .i64 0]
    rw [World.size_alloc] at this; exact this
  have hT : Tr (newNode w) (w.heap.size + 1) ⟨w.heap.size, none, ⟨#[]⟩, .slice none 0 0, .nil⟩ :=
    ⟨h2, ⟨⟨h1, trivial, ⟨rfl, Or.inl ⟨rfl, rfl⟩⟩⟩, trivial⟩, by simp [An.foot, ownFoot, lfoot, At.foot, Value.ownBlock], ⟨fun x hx => (by cases hx), trivial⟩, trivial⟩
  rw [← hs] at hb
  refine ⟨_, _, rfl, hT.bel hb, rfl, ?_, by omega, fun b hb => ?_⟩
  · have hb0 : Below w.heap.size w (newNode w) := ((Below.refl _ w).alloc (Nat.le_refl _) _).alloc (by simp) _
    exact hb0.trans (hb.mono hb0.size)
  · simp [An.foot, ownFoot, lfoot, At.foot, Value.ownBlock] at hb
    omega

set_option maxHeartbeats 1000000 in
set_option maxRecDepth 100000 in
theorem newFromNil_any (w : World) : Calls Try.prog 40 #[.map none] w (Newt w) := by
  obtain ⟨W, hW⟩ : ∃ W, W = newNode w := ⟨_, rfl⟩
  have hs : W.heap.size = w.heap.size + 2 := by rw [hW]; unfold newNode; simp
  have hrg := run_range_nilMap (P := Try.prog) W 57 9 20 Try.underlying57
  have hnx : ∀ ty, (Instr.next (.pointer (some ⟨W.heap.size, 0, none⟩)) false ty).run Try.prog (W.alloc (.mapIter none 0 #[] 0)) = _ := fun ty => run_next_nilMap W ty 0 0 #[]
  have HS := Lib.hid hs
  clear hs
  go_enter Try.func40, Try.ntmps40
  go_upto_region 2 with fail
  rw [show (w.alloc (.cells #[.pointer none, .string ⟨#[]⟩, .slice none 0 0] 85)).alloc (.cells #[.pointer (some ⟨w.heap.size, 0, none⟩), .int .i64 0] 87) = W from hW.symm]
  have HW := Lib.hid hW
  clear hW
  go_wp2_with fail
  refine wp_loop_rounds 1 ?_
  rw [rounds_succ]
  go_wp2_with fail
  go_ret
  exact newNode_ok w _ (by rw [← HW.out, ← HS.out]; exact (Below.refl _ W).alloc (Nat.le_refl _) _)

set_option maxHeartbeats 1000000 in
theorem new_any (w : World) : Calls Try.prog 45 #[] w (Newt w) := by
  go_enter Try.func45, Try.ntmps45
  go_wp2_with fail
  refine (newFromNil_any w).mono ?_
  rintro e w' h
  have H := Lib.hid h
  obtain ⟨t, n, rfl, _⟩ := h
  go_wp2_with fail
  go_ret
  exact H.out

/-! ### number -/
theorem ta_int (w : World) (u : Int) : (Instr.typeAssert (.iface 3 (.int .i64 u)) 20 3 true).run Try.prog w = .ok (.tuple #[.int .i64 u, .bool true]) w := by
  have hu : Try.prog.underlying 3 = some (.int .i64) := Try.underlying3
  simp [Instr.typeAssert, run_underlying hu, go_sem, Result.andThen]
theorem ta_nil (w : World) : (Instr.typeAssert .nilIface 20 3 true).run Try.prog w = .ok (.tuple #[.int .i64 0, .bool false]) w := by
  have hu : Try.prog.underlying 3 = some (.int .i64) := Try.underlying3
  have hz : (zeroValue 3).run Try.prog w = .ok (.int .i64 0) w := by kernel_rfl
  simp [Instr.typeAssert, run_underlying hu, hz, go_sem, Result.andThen]

set_option maxHeartbeats 1000000 in
set_option maxRecDepth 100000 in
theorem number_any (w : World) (o : Option Int) : Calls Try.prog 49 #[iv o] w fun e w' => e = .returned (.int .i64 (o.getD 0)) ∧ w = w' := by
  cases o with
  | none =>
    show Calls Try.prog 49 #[.nilIface] w _
    have hta := ta_nil w
    go_enter Try.func49, Try.ntmps49
    go_wp2_with fail
    go_ret
    exact ⟨rfl, rfl⟩
  | some u =>
    show Calls Try.prog 49 #[.iface 3 (.int .i64 u)] w _
    have hta := ta_int w u
    go_enter Try.func49, Try.ntmps49
    go_wp2_with fail
    go_ret
    exact ⟨rfl, rfl⟩

end Go.Proofs.Ytaidaohkbbdimaa

namespace Go.Proofs.Ytaidaohkbbdimaa
open Go.RowKit

def opv (o : Opr) : Value := .agg #[.int .i64 o.kind, .string (ba o.key), .int .i64 o.val]
def gtv (g : Int × Bool) : Value := .agg #[.int .i64 g.1, .bool g.2]

/-- What an operation leaves. -/
def Did (w : World) (t : Nat) (n : An) (o : Opr) (w' : World) : Prop :=
  ∃ n', Tr w' t n' ∧ n'.er.ents = step n.er.ents o ∧ (o.kind ≠ 2 → n.er.kids.cmp → n'.er.kids.cmp) ∧ Mut w w' (t :: n.foot) ∧ ∀ b ∈ n'.foot, b ∈ n.foot ∨ w.heap.size ≤ b
def DoPost (w : World) (t : Nat) (n : An) (o : Opr) (e : Ending) (w' : World) : Prop := e = .returned (gtv (got n.er.ents o)) ∧ Did w t n o w'

theorem Did.of {w w1 w2 w3 : World} {t r : Nat} {n : An} {o : Opr} (hb : Below w.heap.size w w1) (hr : w.heap.size ≤ r) (hr1 : r < w1.heap.size) (ht : t < w.heap.size) (hn : ∀ b ∈ n.foot, b < w.heap.size) (h : Did w1 t n o w2) (hm : Mut w2 w3 [r]) : Did w t n o w3 := by
  obtain ⟨n', h1, h2, h3, h4, h5⟩ := h
  have hs := hb.size
  refine ⟨n', h1.keep hm (by simp; omega) fun b hbb hi => ?_, h2, h3, ((Mut.of_below (F := t :: n.foot) hb).trans h4 fun b hb => Or.inl hb).trans hm fun b hbb => ?_, fun b hbb => (h5 b hbb).imp (fun h => h) fun h => Nat.le_trans hs h⟩
  · have e : b = r := by simpa using hi
    subst e
    rcases h5 b hbb with h6 | h6
    · have := hn b h6; omega
    · omega
  · have e : b = r := by simpa using hbb
    subst e; exact Or.inr hr
theorem did_ins {w w' : World} {t : Nat} {n : An} {o : Opr} (h : n.er.wf []) (hI : Insd w t n o.key o.val w') (h1 : o.kind ≠ 1) (h2 : o.kind ≠ 2) : Did w t n o w' := by
  obtain ⟨n', k1, k2, k3, k4⟩ := hI
  have hi := Nd.ins_ok (s := o.key) (v := o.val) h
  refine ⟨n', k1, ?_, fun _ hc => ?_, k3, k4⟩
  · rw [k2, hi.2.1]; unfold step; rw [if_neg h1, if_neg h2]
  · rw [k2]; exact hi.2.2 hc
theorem did_del {w w' : World} {t : Nat} {n : An} {o : Opr} (hL : Left w t n (drop1 n.er.ents o.key) w') (h1 : o.kind = 1) : Did w t n o w' := by
  obtain ⟨n', k1, k2, k3, k4⟩ := hL
  exact ⟨n', k1, by rw [k2]; unfold step; rw [if_pos h1], fun _ hc => k3 hc, k4⟩
theorem did_cut {w w' : World} {t : Nat} {n : An} {o : Opr} (hL : Cutl w t n (nund n.er.ents o.key) w') (h2 : o.kind = 2) : Did w t n o w' := by
  obtain ⟨n', k1, k2, k4⟩ := hL
  exact ⟨n', k1, by rw [k2]; unfold step; rw [if_neg (by omega), if_pos h2], fun hk => absurd h2 hk, k4⟩
theorem got_one {n : An} {o : Opr} (h : n.er.wf []) (h2 : o.kind ≠ 2) : got n.er.ents o = ((n.er.get o.key).getD 0, (n.er.get o.key).isSome) := by
  unfold got; rw [if_neg h2, ← Nd.get_ok h]
theorem got_two {n : An} {o : Opr} (h2 : o.kind = 2) : got n.er.ents o = (((und n.er.ents o.key).length : Int), false) := by
  unfold got; rw [if_pos h2]

set_option maxHeartbeats 2000000 in
set_option maxRecDepth 100000 in
theorem do_any {w : World} {t : Nat} {n : An} (o : Opr) (h : Tr w t n) (hk : o.key.length ≤ 1000) (hlen : n.er.ents.length < 100000) :
    Calls Try.prog 46 #[.pointer (some ⟨t, 0, none⟩), opv o] w (DoPost w t n o) := by
  have ht := h.blk.lt
  have HT := Lib.hid h
  have hb0 : Below w.heap.size w ((w.alloc (.cells #[.int .i64 o.kind, .string (ba o.key), .int .i64 o.val] 37)).alloc (.cells #[.int .i64 0, .bool false] 39)) := ((Below.refl _ w).alloc (Nat.le_refl _) _).alloc (by simp) _
  have HB0 := Lib.hid hb0
  have HFT := Lib.hid (An.lt h.ok)
  have hk1 : (ba o.key).size ≤ 1000 := by rw [ba_size]; exact hk
  have HIN := Lib.hid (fun W (hW : Tr W t n) => insert_any (ba o.key) o.val hW hk1 (by omega))
  have HDE := Lib.hid (fun W (hW : Tr W t n) => delete_any (ba o.key) hW (by omega))
  have HCU := Lib.hid (fun W (hW : Tr W t n) => deletePrefix_any (ba o.key) hW hlen)
  clear h hb0 hk
  unfold opv
  have HR : Hid (Bk ((w.alloc (.cells #[.int .i64 o.kind, .string (ba o.key), .int .i64 o.val] 37)).alloc (.cells #[.int .i64 0, .bool false] 39)) (w.heap.size + 1) 39 #[.int .i64 0, .bool false]) := Lib.hid (by
    have := Bk.new (w.alloc (.cells #[.int .i64 o.kind, .string (ba o.key), .int .i64 o.val] 37)) 39 #[.int .i64 0, .bool false]
    rw [World.size_alloc] at this; exact this)
  have HFR : Hid (∀ b ∈ t :: n.foot, b ≠ w.heap.size + 1) := Lib.hid (fun b hb => by
    rcases List.mem_cons.1 hb with rfl | hb
    · omega
    · have := HFT.out b hb; omega)
  have hs0 : ((w.alloc (.cells #[.int .i64 o.kind, .string (ba o.key), .int .i64 o.val] 37)).alloc (.cells #[.int .i64 0, .bool false] 39)).heap.size = w.heap.size + 2 := by simp
  have HS0 := Lib.hid hs0
  have HLT : Hid (∀ b ∈ n.foot, b < w.heap.size) := HFT
  clear hs0
  by_cases h1 : o.kind = 1
  · have hb1 : (o.kind == 1) = true := by rw [h1]; rfl
    have H1 := Lib.hid h1
    have H2 : Hid (o.kind ≠ 2) := Lib.hid (by omega)
    clear h1
    go_enter Try.func46, Try.ntmps46
    go_wp2_with fail
    refine (HDE.out _ (HT.out.bel HB0.out)).mono ?_
    rintro e w2 ⟨rfl, hL⟩
    rw [ba_list] at hL
    have hD : Did _ t n o w2 := did_del hL H1.out
    have hr2 : Bk w2 (w.heap.size + 1) 39 #[.int .i64 0, .bool false] := HR.out.of (by
      obtain ⟨_, _, _, _, hm, _⟩ := hD
      exact hm.block _ HR.out.lt fun hi => HFR.out _ hi rfl)
    have r0 : w2.cell? ⟨w.heap.size + 1, 0, none⟩ = some (.int .i64 0) := by rw [hr2.cell]; rfl
    have r1 : w2.cell? ⟨w.heap.size + 1, 1, none⟩ = some (.bool false) := by rw [hr2.cell]; rfl
    have f0 : w2.frozen? ⟨w.heap.size + 1, 0, none⟩ = false := hr2.frozen 0
    have f1 : w2.frozen? ⟨w.heap.size + 1, 1, none⟩ = false := hr2.frozen 1
    have HD : Hid (∀ w3, Mut w2 w3 [w.heap.size + 1] → Did w t n o w3) := Lib.hid (fun w3 hm => Did.of HB0.out (Nat.le_succ _) (by rw [HS0.out]; omega) ht HLT.out hD hm)
    have HR2 := Lib.hid hr2
    clear hL hr2 hD
    have HN := Lib.hid (number_any w2 (n.er.get (ba o.key).data.toList))
    go_wp2_with fail
    refine HN.out.mono ?_
    rintro e w3 ⟨rfl, hw⟩
    subst hw
    go_wp2_with fail
    have hc := (HR2.out.set_ 0 (.int .i64 ((n.er.get (ba o.key).data.toList).getD 0))).set_ 1 (.bool (n.er.get (ba o.key).data.toList).isSome)
    have e0 := hc.cell 0
    have e1 := hc.cell 1
    clear r0 r1 f0 f1
    refine bodyPost_ret (v := .agg #[(.int .i64 ((n.er.get (ba o.key).data.toList).getD 0)), (.bool (n.er.get (ba o.key).data.toList).isSome)]) (by simp [results, Try.results46, go_sem, e0, e1]) rfl ⟨by rw [got_one HT.out.wf H2.out, ba_list]; rfl, HD.out _ (((Mut.refl w2 _).setCell (Or.inl (by simp)) _).setCell (Or.inl (by simp)) _)⟩
  · by_cases h2 : o.kind = 2
    · have hb1 : (o.kind == 1) = false := by rw [h2]; rfl
      have hb2 : (o.kind == 2) = true := by rw [h2]; rfl
      have H2 := Lib.hid h2
      clear h1 h2
      go_enter Try.func46, Try.ntmps46
      go_wp2_with fail
      refine (HCU.out _ (HT.out.bel HB0.out)).mono ?_
      rintro e w2 ⟨rfl, hL⟩
      rw [ba_list] at hL
      have hD : Did _ t n o w2 := did_cut hL H2.out
      have hr2 : Bk w2 (w.heap.size + 1) 39 #[.int .i64 0, .bool false] := HR.out.of (by
        obtain ⟨_, _, _, _, hm, _⟩ := hD
        exact hm.block _ HR.out.lt fun hi => HFR.out _ hi rfl)
      have r0 : w2.cell? ⟨w.heap.size + 1, 0, none⟩ = some (.int .i64 0) := by rw [hr2.cell]; rfl
      have r1 : w2.cell? ⟨w.heap.size + 1, 1, none⟩ = some (.bool false) := by rw [hr2.cell]; rfl
      have f0 : w2.frozen? ⟨w.heap.size + 1, 0, none⟩ = false := hr2.frozen 0
      have f1 : w2.frozen? ⟨w.heap.size + 1, 1, none⟩ = false := hr2.frozen 1
      have HD : Hid (∀ w3, Mut w2 w3 [w.heap.size + 1] → Did w t n o w3) := Lib.hid (fun w3 hm => Did.of HB0.out (Nat.le_succ _) (by rw [HS0.out]; omega) ht HLT.out hD hm)
      have HR2 := Lib.hid hr2
      clear hL hr2 hD
      go_wp2_with fail
      have hc := (HR2.out.set_ 0 (.int .i64 (und n.er.ents (ba o.key).data.toList).length)).set_ 1 (.bool false)
      have e0 := hc.cell 0
      have e1 := hc.cell 1
      clear r0 r1 f0 f1
      refine bodyPost_ret (v := .agg #[(.int .i64 (und n.er.ents (ba o.key).data.toList).length), (.bool false)]) (by simp [results, Try.results46, go_sem, e0, e1]) rfl ⟨by rw [got_two H2.out, ba_list]; rfl, HD.out _ (((Mut.refl w2 _).setCell (Or.inl (by simp)) _).setCell (Or.inl (by simp)) _)⟩
    · have hb1 : (o.kind == 1) = false := by simpa using h1
      have hb2 : (o.kind == 2) = false := by simpa using h2
      have H1 := Lib.hid h1
      have H2 := Lib.hid h2
      clear h1 h2
      go_enter Try.func46, Try.ntmps46
      go_wp2_with fail
      refine (HIN.out _ (HT.out.bel HB0.out)).mono ?_
      rintro e w2 ⟨rfl, hL⟩
      rw [ba_list] at hL
      have hD : Did _ t n o w2 := did_ins (HT.out.bel HB0.out).wf hL H1.out H2.out
      have hr2 : Bk w2 (w.heap.size + 1) 39 #[.int .i64 0, .bool false] := HR.out.of (by
        obtain ⟨_, _, _, _, hm, _⟩ := hD
        exact hm.block _ HR.out.lt fun hi => HFR.out _ hi rfl)
      have r0 : w2.cell? ⟨w.heap.size + 1, 0, none⟩ = some (.int .i64 0) := by rw [hr2.cell]; rfl
      have r1 : w2.cell? ⟨w.heap.size + 1, 1, none⟩ = some (.bool false) := by rw [hr2.cell]; rfl
      have f0 : w2.frozen? ⟨w.heap.size + 1, 0, none⟩ = false := hr2.frozen 0
      have f1 : w2.frozen? ⟨w.heap.size + 1, 1, none⟩ = false := hr2.frozen 1
      have HD : Hid (∀ w3, Mut w2 w3 [w.heap.size + 1] → Did w t n o w3) := Lib.hid (fun w3 hm => Did.of HB0.out (Nat.le_succ _) (by rw [HS0.out]; omega) ht HLT.out hD hm)
      have HR2 := Lib.hid hr2
      clear hL hr2 hD
      have HN := Lib.hid (number_any w2 (n.er.get (ba o.key).data.toList))
      go_wp2_with fail
      refine HN.out.mono ?_
      rintro e w3 ⟨rfl, hw⟩
      subst hw
      go_wp2_with fail
      have hc := (HR2.out.set_ 0 (.int .i64 ((n.er.get (ba o.key).data.toList).getD 0))).set_ 1 (.bool (n.er.get (ba o.key).data.toList).isSome)
      have e0 := hc.cell 0
      have e1 := hc.cell 1
      clear r0 r1 f0 f1
      refine bodyPost_ret (v := .agg #[(.int .i64 ((n.er.get (ba o.key).data.toList).getD 0)), (.bool (n.er.get (ba o.key).data.toList).isSome)]) (by simp [results, Try.results46, go_sem, e0, e1]) rfl ⟨by rw [got_one HT.out.wf H2.out, ba_list]; rfl, HD.out _ (((Mut.refl w2 _).setCell (Or.inl (by simp)) _).setCell (Or.inl (by simp)) _)⟩

end Go.Proofs.Ytaidaohkbbdimaa
