/-
  Maps of texts as sorted lists of rows: what a map's block holds; a store, a look-up, the length, a range that is under way.
-/
import Derived.Test.YtaidaohkbbdimaaWK
import Derived.Test.YtaidaohkbbdimaaWP
import Derived.Maps.RangeWalk
import Derived.Maps.OwnSet
import Derived.Maps.Ext
namespace Go.Proofs.Ytaidaohkbbdimaa
open Go.RowKit

abbrev El := Value → Option (DataW Unit × List MemPlace)
/-- How an int reads as an element; how an int in an interface does. -/
def intE : El := fun v => match v with
  | .int .i64 a => some (.lit (.int .i64 a), [])
  | _ => none
def anyE : El := fun v => match v with
  | .iface t (.int .i64 a) => if t = 3 then some (.lit (.int .i64 a), []) else none
  | _ => none
theorem intE_mk (a : Int) : intE (.int .i64 a) = some (.lit (.int .i64 a), []) := rfl
theorem anyE_mk (a : Int) : anyE (.iface 3 (.int .i64 a)) = some (.lit (.int .i64 a), []) := by simp [anyE]
theorem intE_inv {v : Value} {y : DataW Unit × List MemPlace} (h : intE v = some y) : ∃ a, v = .int .i64 a ∧ y = (.lit (.int .i64 a), []) := by
  unfold intE at h
  split at h
  · injection h with h; exact ⟨_, rfl, h.symm⟩
  · cases h
theorem anyE_inv {v : Value} {y : DataW Unit × List MemPlace} (h : anyE v = some y) : ∃ a, v = .iface 3 (.int .i64 a) ∧ y = (.lit (.int .i64 a), []) := by
  unfold anyE at h
  split at h
  · split at h
    · rename_i ht
      subst ht
      injection h with h; exact ⟨_, rfl, h.symm⟩
    · cases h
  · cases h

theorem keyedS : Maps.Keyed Try.prog 9 := Maps.string_keyed Try.underlying9
theorem key_of {k : Bs} (h : k.length ≤ 1000000) : keyOf Try.prog 9 (.string (ba k)) = some (.string k) := by
  have h1 := WideMaps.keyOf_string_mk Try.underlying9 (s := ba k) (by rw [ba_size]; unfold maxLen; omega)
  rw [ba_list] at h1
  exact h1
theorem key_inv {key : Value} {kl : Lit} (h : keyOf Try.prog 9 key = some kl) : ∃ k : Bs, key = .string (ba k) ∧ kl = .string k := by
  have hu := Try.underlying9
  cases key <;> simp [keyOf, hu, mapKey] at h
  rename_i s
  obtain ⟨_, rfl⟩ := h
  exact ⟨s.data.toList, by rw [ba_bs], rfl⟩
theorem same_str (a b : Bs) : (Lit.string a).sameKey (.string b) = decide (a = b) := by
  by_cases h : a = b
  · subst h; rw [decide_eq_true rfl]; exact WideAt.sameKey_self trivial
  · rw [decide_eq_false h]; exact Maps.sameKey_ne (fun e => h (by injection e))

/-! ### A datum that holds just the rows of a list -/
structure Lists (D : DataW Unit) (l : List Rw) : Prop where
  srt : Srt l
  size : Maps.size D = l.length
  has : ∀ k, Maps.has D (.string k) = (look l k).isSome
  at_ : ∀ k v, look l k = some v → ∀ z, D.atKey (.string k) z = .lit (.int .i64 v)

theorem Lists.empty : Lists (.map []) [] := ⟨Srt.nil, rfl, fun _ => rfl, fun _ _ h => by cases h⟩
theorem Lists.put {D : DataW Unit} {l : List Rw} (h : Lists D l) (hT : Maps.Tidy D) (k : Bs) (v : Int) : Lists (D.put (.string k) (.lit (.int .i64 v))) (Ytaidaohkbbdimaa.put l k v) := by
  refine ⟨srt_put h.srt, ?_, fun j => ?_, fun j u hj z => ?_⟩
  · rw [Maps.size_put hT, h.has, len_put2 h.srt, h.size]
    cases (look l k).isSome <;> rfl
  · rw [look_put h.srt]
    by_cases e : j = k
    · subst e
      rw [Maps.has_put_same hT.isMap (show WideAt.IsKeyLit (.string j) from trivial), if_pos rfl]; rfl
    · rw [Maps.has_put_other (fun e' => e (by injection e')), if_neg e, h.has]
  · rw [look_put h.srt] at hj
    by_cases e : j = k
    · subst e
      rw [if_pos rfl] at hj
      injection hj with hj
      rw [Maps.atKey_put_same hT.isMap (show WideAt.IsKeyLit (.string j) from trivial), hj]
    · rw [if_neg e] at hj
      rw [Maps.atKey_put_other (fun e' => e (by injection e')), h.at_ _ _ hj]

/-- Block b is a map that holds just the rows. -/
def Mp (R : El) (w : World) (b : Nat) (l : List Rw) : Prop := ∃ D, w.ownsMap Try.prog 9 R b l.length D ∧ Lists D l

set_option maxRecDepth 100000 in
theorem owns_tight {R : El} {w : World} {b n : Nat} {D : DataW Unit} (h : w.ownsMap Try.prog 9 R b n D) : w.ownsMap Try.prog 9 R b (Maps.size D) D := by
  obtain ⟨es, clock, hb, F, _, rfl⟩ := h
  exact ⟨es, clock, hb, F, by simp [Maps.size, length_sorted], rfl⟩
section
variable {R : El} {w w' : World} {b : Nat} {l : List Rw}
set_option maxRecDepth 100000 in
theorem Mp.made (w : World) (R : El) : Mp R (w.alloc (.map #[] 0)) w.heap.size [] := ⟨_, World.ownsMap_made w _ _ _, Lists.empty⟩
set_option maxRecDepth 100000 in
theorem Mp.lt (h : Mp R w b l) : b < w.heap.size := by obtain ⟨D, h, _⟩ := h; exact h.lt
set_option maxRecDepth 100000 in
theorem Mp.srt (h : Mp R w b l) : Srt l := by obtain ⟨D, _, h⟩ := h; exact h.srt
set_option maxRecDepth 100000 in
theorem Mp.of (h : Mp R w b l) (e : w'.heap[b]? = w.heap[b]?) : Mp R w' b l := by
  obtain ⟨D, ⟨es, clock, hb, F, hs, hD⟩, hl⟩ := h
  exact ⟨D, ⟨es, clock, e.trans hb, F, hs, hD⟩, hl⟩
set_option maxRecDepth 100000 in
theorem Mp.bel (h : Mp R w b l) (hb : Below w.heap.size w w') : Mp R w' b l := h.of (hb.block b h.lt)
set_option maxRecDepth 100000 in
theorem Mp.mut {F : List Nat} (h : Mp R w b l) (m : Mut w w' F) (hF : b ∉ F) : Mp R w' b l := h.of (m.block b h.lt hF)
set_option maxRecDepth 100000 in
theorem Mp.of_owns {n : Nat} {D : DataW Unit} (h : w.ownsMap Try.prog 9 R b n D) (hl : Lists D l) : Mp R w b l := ⟨D, by rw [← hl.size]; exact owns_tight h, hl⟩
set_option maxRecDepth 100000 in
theorem Mp.ne_ {ty : TypeId} {cs : Array Value} {g : Nat} (h : Mp R w b l) (hk : Bk w g ty cs) : b ≠ g := by
  rintro rfl
  obtain ⟨D, ⟨es, clock, hb, _⟩, _⟩ := h
  unfold Bk at hk
  rw [hb] at hk
  cases hk
set_option maxRecDepth 100000 in
theorem mut_grown {row : Option Nat} (k : w.grownBy w' row) : Mut w w' row.toList :=
  ⟨k.os, k.tape, k.output, k.size, fun b hb hn => k.block b hb (fun e => hn (by simp [← e]))⟩
end

set_option maxRecDepth 100000 in
/-- 'm[k] = v'. -/
theorem wpList_mp_put {R : El} {w : World} {ops : Array Oper} {rest : List Oper} {o : Oper} {a : Act} {Q : Exit → Act → World → Prop} {l : List Rw} {b : Nat} {k : Bs} {c : Int} {val : Value}
    (hg : o.guard = none) (m x v : Operand) (t e : TypeId) (hop : o.op = Op.mapUpdate t m x v) (ht : Try.prog.underlying t = some (.map 9 e)) (hm : a.eval m = .map (some b)) (h : Mp R w b l) (hl : l.length ≤ 1000000)
    (hx : a.eval x = .string (ba k)) (hk : k.length ≤ 1000000) (hv : a.eval v = val) (hval : R val = some (.lit (.int .i64 c), []))
    (hK : ∀ w', Mp R w' b (put l k c) → Mut w w' [b] → wpList Try.prog ops Q rest (a.put o.dst undef) w') : wpList Try.prog ops Q (o :: rest) a w := by
  obtain ⟨D, hown, hD⟩ := h
  refine wpList_mapUpdate_own w hg m x v t hop 9 e keyedS ht R b l.length D hm hown (by unfold maxLen; omega) _ _ _ hx hv (key_of hk) _ [] hval fun w' h1 h2 => hK w' ?_ (mut_grown h2)
  exact Mp.of_owns h1 (hD.put (hown.tidy keyedS) k c)

set_option maxRecDepth 100000 in
/-- 'v, ok := m[k]'. -/
theorem wpList_mp_look {w : World} {ops : Array Oper} {rest : List Oper} {o : Oper} {a : Act} {Q : Exit → Act → World → Prop} {l : List Rw} {b : Nat} {k : Bs}
    (hg : o.guard = none) (m x : Operand) (t e : TypeId) (hop : o.op = Op.lookup t m x true) (ht : Try.prog.underlying t = some (.map 9 e)) (hz : (zeroValue e).run Try.prog w = .ok (.int .i64 0) w) (hm : a.eval m = .map (some b)) (h : Mp intE w b l)
    (hx : a.eval x = .string (ba k)) (hk : k.length ≤ 1000000)
    (hK : wpList Try.prog ops Q rest (a.put o.dst (.tuple #[.int .i64 ((look l k).getD 0), .bool (look l k).isSome])) w) : wpList Try.prog ops Q (o :: rest) a w := by
  obtain ⟨D, hown, hD⟩ := h
  refine wpList_lookup_own_ok w hg m x t hop 9 e keyedS ht intE hz (.lit (.int .i64 0)) [] rfl b l.length D hm hown _ _ hx (key_of hk) fun v ps hv => ?_
  obtain ⟨c, rfl, hc⟩ := intE_inv hv
  have hc1 := congrArg Prod.fst hc
  simp only at hc1
  have e : c = (look l k).getD 0 := by
    cases hl : look l k with
    | none =>
      rw [Maps.atKey_of_not_has (by rw [hD.has, hl]; rfl)] at hc1
      injection hc1 with hc1
      injection hc1 with _ hc1
      exact hc1.symm
    | some u =>
      rw [hD.at_ k u hl] at hc1
      injection hc1 with hc1
      injection hc1 with _ hc1
      exact hc1.symm
  rw [e, hD.has]
  exact hK

set_option maxRecDepth 100000 in
/-- 'len(m)'. -/
theorem wpList_mp_len {R : El} {w : World} {ops : Array Oper} {rest : List Oper} {o : Oper} {a : Act} {Q : Exit → Act → World → Prop} {l : List Rw} {b : Nat}
    (hg : o.guard = none) (m : Operand) (t e : TypeId) (hop : o.op = Op.call { callee := Callee.builtin Builtin.len, args := #[m], argTypes := #[t] }) (ht : Try.prog.underlying t = some (.map 9 e)) (hm : a.eval m = .map (some b)) (h : Mp R w b l)
    (hK : wpList Try.prog ops Q rest (a.put o.dst (.int .i64 l.length)) w) : wpList Try.prog ops Q (o :: rest) a w := by
  obtain ⟨D, hown, hD⟩ := h
  rw [← hD.size] at hK
  exact wpList_len_own w hg m t hop 9 e ht R b l.length D hm hown hK

/-! ### A range that is under way -/
/-- Block r is an iterator over the map b; p: the rows that have come; at most cnt are still to come. -/
def Rg (R : El) (w : World) (b r : Nat) (l p : List Rw) (cnt : Nat) : Prop :=
  ∃ D left, w.ranges Try.prog 9 R b r l.length D left cnt ∧ Lists D l ∧ Srt p ∧ p.length + cnt ≤ l.length ∧ ∀ k, look p k = if left (.string k) then none else look l k

set_option maxRecDepth 100000 in
theorem look_ext {a b : List Rw} (ha : Srt a) (hb : Srt b) (h : ∀ k, look a k = look b k) : a = b :=
  srt_ext ha hb fun x => by
    obtain ⟨k, v⟩ := x
    rw [← look_mem ha, ← look_mem hb, h]
section
variable {R : El} {w w' : World} {b r cnt : Nat} {l p : List Rw}
set_option maxRecDepth 100000 in
theorem Rg.mp (h : Rg R w b r l p cnt) : Mp R w b l := by obtain ⟨D, left, h1, h2, _⟩ := h; exact ⟨D, h1.owns, h2⟩
set_option maxRecDepth 100000 in
theorem Rg.ne (h : Rg R w b r l p cnt) : r ≠ b := by obtain ⟨D, left, h1, _⟩ := h; exact h1.ne
set_option maxRecDepth 100000 in
theorem Rg.lt (h : Rg R w b r l p cnt) : r < w.heap.size := by obtain ⟨D, left, h1, _⟩ := h; exact h1.lt
set_option maxRecDepth 100000 in
theorem Rg.srt (h : Rg R w b r l p cnt) : Srt p := by obtain ⟨D, left, _, _, h, _⟩ := h; exact h
set_option maxRecDepth 100000 in
theorem Rg.len (h : Rg R w b r l p cnt) : p.length + cnt ≤ l.length := by obtain ⟨D, left, _, _, _, h, _⟩ := h; exact h
set_option maxRecDepth 100000 in
theorem Rg.of (h : Rg R w b r l p cnt) (e1 : w'.heap[b]? = w.heap[b]?) (e2 : w'.heap[r]? = w.heap[r]?) : Rg R w' b r l p cnt := by
  obtain ⟨D, left, ⟨es, clock, since, seen, c0, hb, F, hs, hD, hr, rest⟩, h2⟩ := h
  exact ⟨D, left, ⟨es, clock, since, seen, c0, e1.trans hb, F, hs, hD, e2.trans hr, rest⟩, h2⟩
set_option maxRecDepth 100000 in
theorem Rg.bel (h : Rg R w b r l p cnt) (hb : Below w.heap.size w w') : Rg R w' b r l p cnt := h.of (hb.block b h.mp.lt) (hb.block r h.lt)
set_option maxRecDepth 100000 in
theorem Rg.mut {F : List Nat} (h : Rg R w b r l p cnt) (m : Mut w w' F) (hb : b ∉ F) (hr : r ∉ F) : Rg R w' b r l p cnt := h.of (m.block b h.mp.lt hb) (m.block r h.lt hr)
set_option maxRecDepth 100000 in
theorem Rg.ne_ {ty : TypeId} {cs : Array Value} {g : Nat} (h : Rg R w b r l p cnt) (hk : Bk w g ty cs) : r ≠ g := by
  rintro rfl
  obtain ⟨D, left, ⟨es, clock, since, seen, c0, hb, F, hs, hD, hr, rest⟩, h2⟩ := h
  unfold Bk at hk
  rw [hr] at hk
  cases hk
end

set_option maxRecDepth 100000 in
/-- 'range m'. -/
theorem wpList_mp_range {R : El} {w : World} {ops : Array Oper} {rest : List Oper} {o : Oper} {a : Act} {Q : Exit → Act → World → Prop} {l : List Rw} {b : Nat}
    (hg : o.guard = none) (m : Operand) (t e : TypeId) (hop : o.op = Op.range t m) (ht : Try.prog.underlying t = some (.map 9 e)) (hm : a.eval m = .map (some b)) (h : Mp R w b l)
    (hK : ∀ w', Rg R w' b w.heap.size l [] l.length → Below w.heap.size w w' → w'.heap.size = w.heap.size + 1 → wpList Try.prog ops Q rest (a.put o.dst (.pointer (some ⟨w.heap.size, 0, none⟩))) w') : wpList Try.prog ops Q (o :: rest) a w := by
  obtain ⟨D, hown, hD⟩ := h
  refine wpList_range_own w hg m t hop 9 e keyedS ht R b l.length D hm hown fun w' h1 h2 h3 => hK w' ⟨D, _, by rw [← hD.size]; rw [← hD.size] at h1; exact h1, hD, Srt.nil, by simp, fun k => ?_⟩ ?_ h3
  · rw [hD.has]
    cases look l k <;> rfl
  · exact ⟨h2.os, h2.tape, h2.output, h2.size, fun i hi => h2.block i hi (by simp)⟩

set_option maxRecDepth 100000 in
/-- The step of a range. -/
theorem wpList_mp_next {R : El} {w : World} {ops : Array Oper} {rest : List Oper} {o : Oper} {a : Act} {Q : Exit → Act → World → Prop} {l p : List Rw} {b r cnt : Nat} (mk : Int → Value) (inv : ∀ v y, R v = some y → ∃ c, v = mk c ∧ y = (.lit (.int .i64 c), []))
    (hg : o.guard = none) (it : Operand) (hop : o.op = Op.next it false) (hit : a.eval it = .pointer (some ⟨r, 0, none⟩)) (h : Rg R w b r l p cnt)
    (hDone : p = l → wpList Try.prog ops Q rest (a.put o.dst (.tuple #[.bool false])) w)
    (hMore : ∀ (x : Bs) (c : Int) (w' : World) (cnt' : Nat), look l x = some c → look p x = none → Rg R w' b r l (put p x c) cnt' → cnt' < cnt → Mut w w' [r] → (Instr.entry (.pointer (some ⟨r, 0, none⟩))).run Try.prog w' = .ok (.tuple #[.string (ba x), mk c]) w' →
      wpList Try.prog ops Q rest (a.put o.dst (.tuple #[.bool true, .string (ba x), mk c])) w') : wpList Try.prog ops Q (o :: rest) a w := by
  obtain ⟨D, left, hrg, hD, hs, hlen, hp⟩ := h
  refine wpList_next_ranges w hg it hop 9 keyedS R (fun k : Bs => .string (ba k)) mk (fun key kl hk => by obtain ⟨k, hk, _⟩ := key_inv hk; exact ⟨k, hk⟩) (fun v y hv => by obtain ⟨c, hc, _⟩ := inv v y hv; exact ⟨c, hc⟩) b r l.length D left cnt hit hrg
    (fun _ hl => hDone (look_ext hs hD.srt fun k => by rw [hp, hl]; rfl)) ?_
  intro x c kl y w' cnt' hkey hleft hv hat hrg' hlt hgr hsz hen
  obtain ⟨x', hx', rfl⟩ := key_inv hkey
  obtain ⟨c', hc', rfl⟩ := inv _ _ hv
  have ex : x = x' := by injection hx' with hx'; exact ba_inj (by rw [hx'])
  subst ex
  have hlk : look l x = some c' := by
    have h1 : Maps.has D (.string x) = true := Maps.has_true_of_atKey hat
    rw [hD.has] at h1
    cases hl : look l x with
    | none => rw [hl] at h1; cases h1
    | some u =>
      have h2 := hD.at_ x u hl .nil
      rw [hat] at h2
      injection h2 with h2
      injection h2 with _ h2
      rw [h2]
  have hpn : look p x = none := by rw [hp, hleft]; rfl
  rw [hc'] at hen ⊢
  refine hMore x c' w' cnt' hlk hpn ⟨D, _, hrg', hD, srt_put hs, ?_, fun k => ?_⟩ hlt (mut_grown hgr) hen
  · rw [len_put2 hs, hpn]
    simp
    omega
  · rw [look_put hs, hp, same_str]
    by_cases e : k = x
    · subst e
      rw [if_pos rfl, decide_eq_true rfl]
      simp [hlk]
    · rw [if_neg e, decide_eq_false e]
      simp

/-! ### A map that came in -/
set_option maxRecDepth 100000 in
theorem lists_of : ∀ (es : List (Lit × DataW Unit)), es.Pairwise (fun p q => p.1 ≠ q.1) → (∀ p ∈ es, ∃ x c, p = (.string x, .lit (.int .i64 c))) → ∃ l, Lists (.map es) l
  | [], _, _ => ⟨[], Lists.empty⟩
  | p :: es, hp, hk => by
    obtain ⟨h1, h2⟩ := List.pairwise_cons.1 hp
    obtain ⟨l, hl⟩ := lists_of es h2 fun q hq => hk q (by simp [hq])
    obtain ⟨x, c, rfl⟩ := hk p (by simp)
    have hno : look l x = none := by
      have h3 : Maps.has (.map es : DataW Unit) (.string x) = false := by
        rw [Maps.has_eq, List.any_eq_false]
        intro q hq e
        exact h1 q hq (WideAt.sameKey_eq e).symm
      rw [hl.has] at h3
      simpa using h3
    have hhas : ∀ k, Maps.has (.map ((.string x, .lit (.int .i64 c)) :: es) : DataW Unit) (.string k) = (decide (x = k) || Maps.has (.map es : DataW Unit) (.string k)) := fun k => by
      rw [Maps.has_eq, Maps.has_eq, List.any_cons, same_str]
    refine ⟨put l x c, srt_put hl.srt, ?_, fun k => ?_, fun k v hv z => ?_⟩
    · rw [len_put2 hl.srt, hno, ← hl.size]; rfl
    · rw [hhas, look_put hl.srt, hl.has]
      by_cases e : k = x
      · subst e; simp
      · rw [if_neg e, decide_eq_false (fun e' => e e'.symm)]; rfl
    · rw [look_put hl.srt] at hv
      have hat : (DataW.map ((.string x, .lit (.int .i64 c)) :: es) : DataW Unit).atKey (.string k) z = if x = k then .lit (.int .i64 c) else (DataW.map es : DataW Unit).atKey (.string k) z := by
        unfold DataW.atKey
        simp only [List.find?_cons, same_str]
        by_cases e : x = k
        · rw [decide_eq_true e, if_pos e]
        · rw [decide_eq_false e, if_neg e]
      rw [hat]
      by_cases e : k = x
      · subst e
        rw [if_pos rfl] at hv ⊢
        injection hv with hv
        rw [hv]
      · rw [if_neg e] at hv
        rw [if_neg (fun e' => e e'.symm)]
        exact hl.at_ k v hv z
set_option maxRecDepth 100000 in
theorem Mp.came {w : World} {b n : Nat} {D : DataW Unit} (h : w.ownsMap Try.prog 9 intE b n D) : ∃ l, Mp intE w b l := by
  obtain ⟨es, hD, hd, _⟩ := h.entries keyedS
  have h' := h
  obtain ⟨ms, clock, _, F, _, hD'⟩ := h'
  have hk : ∀ p ∈ es, ∃ x c, p = (Lit.string x, DataW.lit (.int .i64 c)) := fun p hp => by
    rw [hD] at hD'
    injection hD' with hD'
    rw [hD'] at hp
    obtain ⟨m, hm, rfl⟩ := List.mem_map.1 (mem_sorted.1 hp)
    obtain ⟨y, hy⟩ := F.reads m hm
    rw [WideElems.rg_of hy]
    obtain ⟨k, _, hk⟩ := key_inv (WideElems.rd_key hy)
    obtain ⟨z, hz, e⟩ := WideElems.rd_val hy
    obtain ⟨c, _, rfl⟩ := intE_inv hz
    exact ⟨k, c, Prod.ext hk e⟩
  obtain ⟨l, hl⟩ := lists_of es hd hk
  subst hD
  exact ⟨l, Mp.of_owns h hl⟩

end Go.Proofs.Ytaidaohkbbdimaa
