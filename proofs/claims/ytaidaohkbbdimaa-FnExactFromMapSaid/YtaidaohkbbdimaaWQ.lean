/-
  The walks, part Q: slices.Delete of one row; slices.Insert of one row.
-/
import Derived.Test.YtaidaohkbbdimaaWL3
import Derived.Lib.AppendZerosOnto
import Derived.Lib.Overlaps
import Derived.Deep.CutRange
import Derived.Deep.DeepCutAuto
namespace Go.Proofs.Ytaidaohkbbdimaa
open Go.RowKit

/-- Block g holds rows, then spare cells. -/
structure Rb (w : World) (g cap : Nat) (l : List Rw) : Prop where
  ex : ∃ sp : List Value, Bk w g 28 (flat rwc l ++ sp).toArray ∧ l.length * 2 + sp.length = cap * 2
  le : l.length ≤ cap
  max : cap ≤ maxLen
theorem Rb.of_own {w : World} {B g n cap : Nat} {l : List Rw} (h : w.ownsRow B 28 2 (.slice (some ⟨g, 0, none⟩) n cap) l.length (flat rwc l)) : n = l.length ∧ B ≤ g ∧ Rb w g cap l := by
  rcases h.2 with ⟨h1, _⟩ | ⟨g', cap', cur, h1, hB, hg, hnc, hm, hs, ht⟩
  · cases h1
  · injection h1 with h1 h2 h3
    injection h1 with h1
    injection h1 with h1
    subst h1
    subst h2
    subst h3
    have hl := flat_len rwc_len l
    refine ⟨rfl, hB, ⟨cur.toList.drop (l.length * 2), ?_, ?_⟩, hnc, hm⟩
    · have e : flat rwc l ++ cur.toList.drop (l.length * 2) = cur.toList := by rw [← ht, List.take_append_drop]
      rw [e, Array.toArray_toList]; exact hg
    · have e2 : cur.toList.length = cap * 2 := by rw [Array.length_toList]; exact hs
      rw [List.length_drop, e2]
      omega
theorem Rb.own {w : World} {B g cap : Nat} {l : List Rw} (h : Rb w g cap l) (hB : B ≤ g) : w.ownsRow B 28 2 (.slice (some ⟨g, 0, none⟩) l.length cap) l.length (flat rwc l) := by
  obtain ⟨sp, hk, hs⟩ := h.ex
  have hl := flat_len rwc_len l
  refine ⟨hl, Or.inr ⟨g, cap, _, rfl, hB, hk, h.le, h.max, ?_, ?_⟩⟩
  · rw [List.size_toArray, List.length_append, hl]; exact hs
  · rw [← hl]; exact List.take_left

theorem App1.blk {B b0 : Nat} {w w' : World} {v v' : Value} {l : List Rw} (ha : App1 28 rwc 2 B w v l v' w') (hv : v.ownBlock = some b0) : ∃ g cap, v' = .slice (some ⟨g, 0, none⟩) l.length cap ∧ B ≤ g ∧ Rb w' g cap l ∧ (g = b0 ∨ g = w.heap.size) := by
  have hr := ha.row
  have hp := ha.place
  rcases ha.row.2 with ⟨h1, _⟩ | ⟨g, cap, cur, h1, hB, _⟩
  · rcases ha.place with hp | hp
    · rw [h1, hv] at hp; cases hp
    · rw [h1] at hp; cases hp
  · rw [h1] at hr
    obtain ⟨_, _, h3⟩ := Rb.of_own hr
    refine ⟨g, cap, h1, hB, h3, ?_⟩
    rw [h1, hv] at hp
    simpa [Value.ownBlock] using hp

theorem step_append_run {P : Program} {ops : Array Oper} {o : Oper} {a : Act} {w : World} {K : Act → World → Prop} {Q : Exit → Act → World → Prop} {E : Prop} (hgd : o.guard = none) (s x : Operand) (t tn : TypeId)
    (ho : o.op = .call { callee := .builtin .append, args := #[s, x], argTypes := #[t, tn] }) (vs vx : Value) (hs : a.eval s = vs) (hx : a.eval x = vx)
    (v' : Value) (w' : World) (hr : (Builtin.append_ #[t, tn] o.type #[vs, vx]).run P w = .ok v' w') (h : K (a.put o.dst v') w') :
    if Region.wanted o (yielded ops a.tmps) = true then Oper.wp P o a w K Q else E := by
  have hw : Region.wanted o (yielded ops a.tmps) = true := by simp [Region.wanted, hgd]
  rw [if_pos hw]
  exact Lib.wp_append_run w s x t tn ho vs vx hs hx v' w' hr h

theorem zero_row (w : World) : (zeroValue 28).run Try.prog w = .ok (.agg #[.string ⟨#[]⟩, .int .i64 0]) w := by kernel_rfl
theorem size_row : (Try.prog.info? 28).map (·.size) = some 2 := by kernel_rfl

/-- The cells behind a deletion, before and behind the clearing. -/
theorem del_cells {l : List Rw} {sp cur1 : List Value} {i N cap : Nat} (hl : l.length = N + 1) (hi : i ≤ N) (hs : l.length * 2 + sp.length = cap * 2)
    (h1 : cur1 = (flat rwc l ++ sp).take (i * 2) ++ flat rwc (l.drop (i + 1)) ++ (flat rwc l ++ sp).drop (i * 2 + (flat rwc (l.drop (i + 1))).length)) (z : List Value) (hz : z.length = 2) :
    cur1.length = cap * 2 ∧ ∃ sp', cur1.take (N * 2) ++ z ++ cur1.drop (N * 2 + z.length) = flat rwc (l.eraseIdx i) ++ sp' ∧ (l.eraseIdx i).length * 2 + sp'.length = cap * 2 := by
  have hf := flat_len rwc_len l
  have hd := flat_len rwc_len (l.drop (i + 1))
  rw [List.length_drop, hl] at hd
  have ht : (flat rwc l ++ sp).take (i * 2) = flat rwc (l.take i) := by
    rw [List.take_append_of_le_length (by rw [hf, hl]; omega), flat_take rwc_len]
  have htl : (flat rwc (l.take i)).length = i * 2 := by rw [flat_len rwc_len, List.length_take, hl]; congr 1; omega
  have hlen : cur1.length = cap * 2 := by
    rw [h1, ht, List.length_append, List.length_append, htl, hd, List.length_drop, List.length_append, hf, hl]
    rw [hl] at hs
    omega
  have he : l.eraseIdx i = l.take i ++ l.drop (i + 1) := List.eraseIdx_eq_take_drop_succ l i
  have htk : cur1.take (N * 2) = flat rwc (l.eraseIdx i) := by
    rw [he, flat_app, h1, ht]
    have : (flat rwc (l.take i) ++ flat rwc (l.drop (i + 1))).length = N * 2 := by rw [List.length_append, htl, hd]; omega
    rw [← this]
    exact List.take_left
  refine ⟨hlen, z ++ cur1.drop (N * 2 + z.length), by rw [htk, List.append_assoc], ?_⟩
  rw [List.length_append, List.length_drop, hlen, hz, List.length_eraseIdx, hl, if_pos (by omega)]
  rw [hl] at hs
  omega

/-- What slices.Delete leaves. -/
def DelR (w : World) (g cap : Nat) (l : List Rw) (e : Ending) (w' : World) : Prop := e = .returned (.slice (some ⟨g, 0, none⟩) l.length cap) ∧ Rb w' g cap l ∧ Mut w w' [g]

set_option maxHeartbeats 2000000 in
set_option maxRecDepth 100000 in
theorem delete1_any {w : World} {g cap i N : Nat} {l : List Rw} (h : Rb w g cap l) (hl : l.length = N + 1) (hi : i ≤ N) (hN : N ≤ 100000) :
    Calls Try.prog 66 #[.slice (some ⟨g, 0, none⟩) (N + 1) cap, .int .i64 i, .int .i64 ((i : Int) + 1)] w (DelR w g cap (l.eraseIdx i)) := by
  obtain ⟨sp, hk, hs⟩ := h.ex
  obtain ⟨i0, hi0, hz0, hz1, hz2⟩ := info_parts info_row
  have hle := h.le
  have hmax := h.max
  unfold maxLen at hmax
  rw [hl] at hle
  have hf := flat_len rwc_len l
  have hd := flat_len rwc_len (l.drop (i + 1))
  rw [List.length_drop, hl] at hd
  obtain ⟨cur1, hc1⟩ : ∃ cur1, cur1 = (flat rwc l ++ sp).take (i * 2) ++ flat rwc (l.drop (i + 1)) ++ (flat rwc l ++ sp).drop (i * 2 + (flat rwc (l.drop (i + 1))).length) := ⟨_, rfl⟩
  obtain ⟨hlen1, sp', hfin, hsp'⟩ := del_cells hl hi hs hc1 [.string ⟨#[]⟩, .int .i64 0] rfl
  -- the append
  have happ : ∀ (ad : Addr) (c : Nat) ty, (∀ j u, (flat rwc (l.drop (i + 1)))[j]? = some u → w.drew.cell? (ad.add j) = some u) →
      (Builtin.append_ #[24, 24] ty #[.slice (some ⟨g, 0, none⟩) i cap, .slice (some ad) (N + 1 - (i + 1)) c]).run Try.prog w.drew = .ok (.slice (some ⟨g, 0, none⟩) N cap) (w.drew.setRow g cur1.toArray) := fun ad c ty hsrc => by
    have hr := run_append_room (P := Try.prog) w.drew 24 ty 28 i0 Try.underlying24 hi0 g i cap (flat rwc l ++ sp).toArray hk ad (N + 1 - (i + 1)) c (flat rwc (l.drop (i + 1))) (by rw [hz1]; exact hd) hsrc (flat_one rwc_one _) (by omega) (by rw [hz1, hd, List.size_toArray, List.length_append, hf, hl]; omega)
    rw [hr, hz1, hc1]
    rw [show i + (N + 1 - (i + 1)) = N by omega]
  have hk1 : Bk (w.drew.setRow g cur1.toArray) g 28 cur1.toArray := hk.drew.setRow _
  have hm1 : Mut w (w.drew.setRow g cur1.toArray) [g] := ((Mut.refl w [g]).drew).setRow (by simp) _
  have hz := zero_row
  obtain ⟨cur2, hc2⟩ : ∃ cur2 : List Value, cur2 = cur1.take (N * 2) ++ ([.string ⟨#[]⟩, .int .i64 0] : List Value) ++ cur1.drop (N * 2 + 2) := ⟨_, rfl⟩
  have hclr : ∀ c ty W, W.heap[g]? = some (.cells cur1.toArray 28 (0, 0)) → (Builtin.clear_ #[24] ty #[.slice (some ⟨g, N * 2, none⟩) 1 c]).run Try.prog W = .ok (.tuple #[]) (W.setRow g cur2.toArray) := fun c ty W hW => by
    rw [hc2]
    have hst := run_storeCells_at Try.prog g (N * 2) 28 [.string ⟨#[]⟩, .int .i64 0] 0 cur1.toArray W hW (by rw [List.size_toArray, hlen1]; simp; omega) (by intro v hv; simp at hv; rcases hv with rfl | rfl <;> rfl)
    have hu := Try.underlying24
    have hzc : (Builtin.zeroCells (Value.agg #[.string ⟨#[]⟩, .int .i64 0]).cells 1).toList = [.string ⟨#[]⟩, .int .i64 0] := by kernel_rfl
    simp [Builtin.clear_, run_underlying hu, hzc, hst, -Array.toList_map, Result.andThen]
  have hw1 : IntKind.i64.wrap ((i : Int) + 1) = (i : Int) + 1 := IntWalk.i64_in _ (by omega)
  have hne : ((i : Int) == (i : Int) + 1) = false := by rw [beq_eq_false_iff_ne]; omega
  have hh1 : (0 : Int) ≤ (i : Int) + 1 := by omega
  have hh2 : ((i : Int) + 1).toNat = i + 1 := by omega
  have hh3 : (i : Int) ≤ (N : Int) + 1 := by omega
  have hh4 : (i : Int) + 1 ≤ (N : Int) + 1 := by omega
  have hh5 : ¬ (cap = i) := by omega
  have hh6 : (i : Int) ≤ (i : Int) + 1 := by omega
  have hh8 : (i : Int) ≤ (cap : Int) := by omega
  have hh9 : i ≤ cap := by omega
  have hh7 : (N : Int) + 1 ≤ (cap : Int) := by omega
  by_cases hci : cap = i + 1
  · obtain rfl : N = i := by omega
    subst hci
    have hsrc : ∀ j u, (flat rwc (l.drop (N + 1)))[j]? = some u → w.drew.cell? ((⟨g, 0, none⟩ : Addr).add j) = some u := fun j u hu => by
      have := (List.getElem?_eq_some_iff.1 hu).1
      rw [hd] at this
      omega
    have HA : Hid (∀ ty, (Builtin.append_ #[24, 24] ty #[.slice (some ⟨g, 0, none⟩) N (N + 1), .slice (some ⟨g, 0, none⟩) 0 0]).run Try.prog w.drew = .ok (.slice (some ⟨g, 0, none⟩) N (N + 1)) (w.drew.setRow g cur1.toArray)) := Lib.hid (fun ty => by
      have h := happ ⟨g, 0, none⟩ 0 ty hsrc
      rw [Nat.sub_self] at h
      exact h)
    have HC := Lib.hid hclr
    clear happ hclr hsrc
    have HK1 := Lib.hid hk1
    have HM1 := Lib.hid hm1
    have HFIN : Hid (Rb ((w.drew.setRow g cur1.toArray).setRow g cur2.toArray) g (N + 1) (l.eraseIdx N)) := Lib.hid ⟨⟨sp', by rw [← hfin, hc2]; exact hk1.setRow _, hsp'⟩, by rw [List.length_eraseIdx, hl, if_pos (by omega)]; omega, h.max⟩
    have HLEN : Hid ((l.eraseIdx N).length = N) := Lib.hid (by rw [List.length_eraseIdx, hl, if_pos (by omega)]; omega)
    clear hk1 hm1 hk h hfin hc1 hlen1 hd hf hs hsp' hz hz0 hz1 hz2 hi0 hc2
    go_enter Try.func66, Try.ntmps66
    go_wp2_with fail
    go_region_law (refine step_append_run rfl _ _ 24 24 rfl _ _ (by simp [Act.eval, Act.put]) (by simp [Act.eval, Act.put]) _ _ (HA.out _) ?_)
    have hcl := HC.out 1 0 _ HK1.out
    go_wp2_with fail
    go_ret
    refine ⟨?_, HFIN.out, HM1.out.setRow (by simp) _⟩
    rw [HLEN.out]
    rfl
  · have hsrc : ∀ j u, (flat rwc (l.drop (i + 1)))[j]? = some u → w.drew.cell? ((⟨g, (i + 1) * 2, none⟩ : Addr).add j) = some u := fun j u hu => by
      have e1 : (⟨g, (i + 1) * 2, none⟩ : Addr).add j = ⟨g, (i + 1) * 2 + j, none⟩ := by unfold Addr.add; split <;> simp_all
      have hj : j < (N + 1 - (i + 1)) * 2 := by rw [← hd]; exact (List.getElem?_eq_some_iff.1 hu).1
      rw [e1, hk.drew.cell, List.getElem?_toArray, List.getElem?_append_left (by rw [hf, hl]; omega), ← hu, ← flat_drop rwc_len, List.getElem?_drop]
    have HA := Lib.hid (fun ty => happ ⟨g, (i + 1) * 2, none⟩ (cap - (i + 1)) ty hsrc)
    have HC := Lib.hid hclr
    clear happ hclr hsrc
    have HK1 := Lib.hid hk1
    have HM1 := Lib.hid hm1
    have HFIN : Hid (Rb ((w.drew.setRow g cur1.toArray).setRow g cur2.toArray) g cap (l.eraseIdx i)) := Lib.hid ⟨⟨sp', by rw [← hfin, hc2]; exact hk1.setRow _, hsp'⟩, by rw [List.length_eraseIdx, hl, if_pos (by omega)]; omega, h.max⟩
    have HLEN : Hid ((l.eraseIdx i).length = N) := Lib.hid (by rw [List.length_eraseIdx, hl, if_pos (by omega)]; omega)
    clear hk1 hm1 hk h hfin hc1 hlen1 hd hf hs hsp' hz hz0 hz1 hz2 hi0 hc2
    go_enter Try.func66, Try.ntmps66
    go_wp2_with fail
    go_region_law (refine step_append_run rfl _ _ 24 24 rfl _ _ (by simp [Act.eval, Act.put]) (by simp [Act.eval, Act.put]) _ _ (HA.out _) ?_)
    have hcl := HC.out (cap - N) 0 _ HK1.out
    go_wp2_with fail
    go_ret
    refine ⟨?_, HFIN.out, HM1.out.setRow (by simp) _⟩
    rw [HLEN.out]
    rfl


/-! ### Insert -/
theorem rd_pre {w : World} {g : Nat} {ty : TypeId} {l : List Rw} {sp : List Value} (h : Bk w g ty (flat rwc l ++ sp).toArray) : Rd w 2 (some ⟨g, 0, none⟩) l.length (flat rwc l) := by
  refine ⟨flat_len rwc_len l, fun _ => ⟨_, rfl, h.lt, fun j u hu => ?_⟩⟩
  have e : (⟨g, 0, none⟩ : Addr).add j = ⟨g, j, none⟩ := by unfold Addr.add; split <;> simp_all
  have hj := (List.getElem?_eq_some_iff.1 hu).1
  rw [e, h.cell, List.getElem?_toArray, List.getElem?_append_left hj, hu]
theorem ins_shift {cur rest c1 : List Value} {l : List Rw} {x : Rw} {i : Nat} (hc : cur.take (i * 2) = flat rwc (l.take i)) (hl : (i + 1) * 2 ≤ cur.length) (h1 : c1 = cur.take ((i + 1) * 2) ++ flat rwc (l.drop i) ++ rest) :
    c1.take (i * 2) ++ rwc x ++ c1.drop (i * 2 + 2) = flat rwc (l.take i ++ x :: l.drop i) ++ rest := by
  have e1 : c1.take (i * 2) = flat rwc (l.take i) := by
    rw [h1, List.append_assoc, List.take_append_of_le_length (by rw [List.length_take]; omega), List.take_take, Nat.min_eq_left (by omega), hc]
  have e2 : c1.drop (i * 2 + 2) = flat rwc (l.drop i) ++ rest := by
    rw [h1, List.append_assoc]
    exact List.drop_left' (by rw [List.length_take]; omega)
  rw [e1, e2, flat_app, flat_cons]
  simp [List.append_assoc]
theorem ins_grow {cur c1 : List Value} {l : List Rw} {x : Rw} {i : Nat} (hc : cur.take (i * 2) = flat rwc (l.take i)) (hl : (i + 1) * 2 ≤ cur.length) (h1 : c1 = cur.take (i * 2) ++ rwc x ++ cur.drop (i * 2 + 2)) (rest : List Value) :
    c1.take ((i + 1) * 2) ++ flat rwc (l.drop i) ++ rest = flat rwc (l.take i ++ x :: l.drop i) ++ rest := by
  have e1 : c1.take ((i + 1) * 2) = flat rwc (l.take i) ++ rwc x := by
    rw [h1, hc]
    refine List.take_left' ?_
    rw [← hc, List.length_append, List.length_take, rwc_len]; omega
  rw [e1, flat_app, flat_cons]
  simp [List.append_assoc]

theorem wp_copy_runI {P : Program} (w : World) {o : Oper} {a : Act} {K : Act → World → Prop} {Q : Exit → Act → World → Prop} (d s : Operand) (t t' : TypeId)
    (ho : o.op = .call { callee := .builtin .copy, args := #[d, s], argTypes := #[t, t'] }) (v u : Value) (hd : a.eval d = v) (hs : a.eval s = u) {v' : Value} {w' : World}
    (hr : (Builtin.copy_ #[t, t'] o.type #[v, u]).run P w = .ok v' w') (h : K (a.put o.dst v') w') : o.wp P a w K Q := by
  unfold Oper.wp execOp
  simp only [ho, resolve, invoke, builtin, Sem.run_bind, Sem.run_pure, Result.andThen_ok, List.map_toArray, List.map_cons, List.map_nil, hd, hs, hr]
  exact h
theorem wpList_copy_runI {P : Program} (w : World) {ops : Array Oper} {rest : List Oper} {o : Oper} {a : Act} {Q : Exit → Act → World → Prop} (hgd : o.guard = none) (d s : Operand) (t t' : TypeId)
    (ho : o.op = .call { callee := .builtin .copy, args := #[d, s], argTypes := #[t, t'] }) (v u : Value) (hd : a.eval d = v) (hs : a.eval s = u) {v' : Value} {w' : World}
    (hr : (Builtin.copy_ #[t, t'] o.type #[v, u]).run P w = .ok v' w') (h : wpList P ops Q rest (a.put o.dst v') w') : wpList P ops Q (o :: rest) a w :=
  wpList_plain hgd fun _ hK => wp_copy_runI w d s t t' ho v u hd hs hr (hK _ _ h)
theorem step_copy_runI {P : Program} {ops : Array Oper} {o : Oper} {a : Act} {w : World} {K : Act → World → Prop} {Q : Exit → Act → World → Prop} {E : Prop}
    (hgd : o.guard = none) (d s : Operand) (t t' : TypeId) (ho : o.op = .call { callee := .builtin .copy, args := #[d, s], argTypes := #[t, t'] })
    (v u : Value) (hd : a.eval d = v) (hs : a.eval s = u) {v' : Value} {w' : World} (hr : (Builtin.copy_ #[t, t'] o.type #[v, u]).run P w = .ok v' w') (h : K (a.put o.dst v') w') :
    if Region.wanted o (yielded ops a.tmps) = true then Oper.wp P o a w K Q else E := by
  have hw : Region.wanted o (yielded ops a.tmps) = true := by simp [Region.wanted, hgd]
  rw [if_pos hw]
  exact wp_copy_runI w d s t t' ho v u hd hs hr h

/-- What slices.Insert leaves. -/
def InsR (w : World) (g : Nat) (l : List Rw) (e : Ending) (w' : World) : Prop := ∃ g' c, e = .returned (.slice (some ⟨g', 0, none⟩) l.length c) ∧ Rb w' g' c l ∧ (g' = g ∨ w.heap.size ≤ g') ∧ Mut w w' [g]

theorem overlaps_no {w : World} {vb g : Nat} {cv cg : Array Value} (hv : Bk w vb 28 cv) (hg : Bk w g 28 cg) (hne : vb ≠ g) (h0 : cg.size ≠ 0) (o n c n2 c2 : Nat) :
    (callFunc 76 #[.slice (some ⟨vb, 0, none⟩) n c, .slice (some ⟨g, o, none⟩) n2 c2]).run Try.prog w = .ok (.value (.bool false)) w := by
  have hz : ∀ w, (sizeOf 28).run Try.prog w = .ok 2 w := fun w => by
    obtain ⟨i0, hi0, _, hz1, _⟩ := info_parts info_row
    simp [sizeOf, typeInfo, hi0, hz1]
  have hsa : w.shape? vb = some (28, cv.size) := by unfold World.shape?; rw [hv]
  have hsb : w.shape? g = some (28, cg.size) := by unfold World.shape?; rw [hg]
  rw [run_callFunc_extern Try.func76 (by kernel_rfl) (by kernel_rfl) (by kernel_rfl) (e := Extern.SlicesOverlaps.overlaps #[24, 24] #[4]) (by kernel_rfl),
    Lib.run_overlaps_apart w 24 4 28 Try.underlying24 2 hz ⟨vb, 0, none⟩ ⟨g, o, none⟩ n c n2 c2 hne 28 28 cv.size cg.size hsa hsb h0 (hv.frozen 0) (hv.frozen _)]
  rfl


set_option maxHeartbeats 2000000 in
set_option maxRecDepth 100000 in
theorem insEnd_any {w : World} {g cap vb : Nat} {l : List Rw} {x : Rw} (h : Rb w g cap l) (hv : Bk w vb 28 (rwc x).toArray) (hN : l.length ≤ 10000) :
    Calls Try.prog 67 #[.slice (some ⟨g, 0, none⟩) l.length cap, .int .i64 l.length, .slice (some ⟨vb, 0, none⟩) 1 1] w (InsR w g (l ++ [x])) := by
  have hown := h.own (Nat.zero_le g)
  have hle := h.le
  have hmax := h.max
  unfold maxLen at hmax
  have HOW : Hid (w.ownsRow 0 28 2 (.slice (some ⟨g, 0, none⟩) l.length cap) l.length (flat rwc l)) := Lib.hid hown
  have HV := Lib.hid (rd_one (f := rwc) (k := 2) (y := x) rfl hv rfl)
  have HLL : Hid (l.length + 1 ≤ 100000) := Lib.hid (by omega)
  have HLX : Hid ((l ++ [x]).length = l.length + 1) := Lib.hid (by simp)
  clear h hv hown
  obtain ⟨L, hL⟩ : ∃ L, L = l.length := ⟨_, rfl⟩
  rw [← hL] at HOW HLX hle hN HLL ⊢
  have HL := Lib.hid hL
  clear hL
  have hc2 : (L : Int) ≤ (cap : Int) := by omega
  by_cases hcL : cap = L
  · go_enter Try.func67, Try.ntmps67
    go_wp2_with (at_builtin; refine wpList_many rec_row rfl rfl (by rw [← HL.out]; exact HOW.out) (Nat.zero_le _) (by rw [← HL.out]; exact HLL.out) (by omega) rfl rfl rfl HV.out ?_; intro v' w5 hap)
    obtain ⟨g', c', hv', _, hr, hp⟩ := hap.blk rfl
    have HR := Lib.hid hr
    have HP : Hid (g' = g ∨ w.heap.size ≤ g') := Lib.hid (hp.imp (fun h => h) fun h => by omega)
    have HM := Lib.hid hap.turned
    subst hv'
    clear hap hr hp
    go_ret
    exact ⟨g', c', rfl, HR.out, HP.out, HM.out⟩
  · go_enter Try.func67, Try.ntmps67
    go_wp2_with (at_builtin; refine wpList_many rec_row rfl rfl (by rw [← HL.out]; exact HOW.out) (Nat.zero_le _) (by rw [← HL.out]; exact HLL.out) (by omega) rfl rfl rfl HV.out ?_; intro v' w5 hap)
    obtain ⟨g', c', hv', _, hr, hp⟩ := hap.blk rfl
    have HR := Lib.hid hr
    have HP : Hid (g' = g ∨ w.heap.size ≤ g') := Lib.hid (hp.imp (fun h => h) fun h => by omega)
    have HM := Lib.hid hap.turned
    subst hv'
    clear hap hr hp
    go_ret
    exact ⟨g', c', rfl, HR.out, HP.out, HM.out⟩

set_option maxHeartbeats 4000000 in
set_option maxRecDepth 100000 in
theorem insRoom_any {w : World} {g cap vb i L : Nat} {l : List Rw} {x : Rw} (h : Rb w g cap l) (hv : Bk w vb 28 (rwc x).toArray) (hvb : vb ≠ g) (hL : L = l.length) (hi : i < L) (hN : L ≤ 10000) (hroom : L + 1 ≤ cap) :
    Calls Try.prog 67 #[.slice (some ⟨g, 0, none⟩) L cap, .int .i64 i, .slice (some ⟨vb, 0, none⟩) 1 1] w (InsR w g (l.take i ++ x :: l.drop i)) := by
  obtain ⟨sp, hk, hs⟩ := h.ex
  have hsz : (Try.prog.info? 28).map (·.size) = some 2 := size_row
  have hmax := h.max
  unfold maxLen at hmax
  have hf := flat_len rwc_len l
  have hd := flat_len rwc_len (l.drop i)
  rw [List.length_drop, ← hL] at hd
  rw [← hL] at hf hs
  obtain ⟨cur, hc0⟩ : ∃ cur, cur = flat rwc l ++ sp := ⟨_, rfl⟩
  have hcl : cur.length = cap * 2 := by rw [hc0, List.length_append, hf]; exact hs
  have hct : cur.take (i * 2) = flat rwc (l.take i) := by rw [hc0, List.take_append_of_le_length (by rw [hf]; omega), flat_take rwc_len]
  rw [← hc0] at hk
  obtain ⟨cur1, hc1⟩ : ∃ cur1, cur1 = cur.take ((i + 1) * 2) ++ flat rwc (l.drop i) ++ cur.drop ((i + 1) * 2 + (flat rwc (l.drop i)).length) := ⟨_, rfl⟩
  have hcl1 : cur1.length = cap * 2 := by rw [hc1]; simp only [List.length_append, List.length_take, List.length_drop, hd, hcl]; omega
  obtain ⟨cur2, hc2⟩ : ∃ cur2, cur2 = cur1.take (i * 2) ++ rwc x ++ cur1.drop (i * 2 + (rwc x).length) := ⟨_, rfl⟩
  have hfin : cur2 = flat rwc (l.take i ++ x :: l.drop i) ++ cur.drop ((i + 1) * 2 + (flat rwc (l.drop i)).length) := by rw [hc2]; exact ins_shift hct (by omega) hc1
  have hcp1 : ∀ ty dc sc, (Builtin.copy_ #[24, 24] ty #[.slice (some ⟨g, (i + 1) * 2, none⟩) (L - i) dc, .slice (some ⟨g, i * 2, none⟩) (L + 1 - i) sc]).run Try.prog w.drew = .ok (goInt (Nat.min (L + 1 - i) (L - i))) (w.drew.setRow g cur1.toArray) := fun ty dc sc => by
    have h1 := run_copy_whole (P := Try.prog) w.drew 24 24 ty 28 2 g ((i + 1) * 2) (L - i) dc ⟨g, i * 2, none⟩ (L + 1 - i) sc cur.toArray 28 (flat rwc (l.drop i)) Try.underlying24 hsz hk.drew
      (by rw [hd, show Nat.min (L + 1 - i) (L - i) = L - i from Nat.min_eq_right (by omega)])
      (fun j u hu => by
        have e1 : (⟨g, i * 2, none⟩ : Addr).add j = ⟨g, i * 2 + j, none⟩ := by unfold Addr.add; split <;> simp_all
        have hj : j < (L - i) * 2 := by rw [← hd]; exact (List.getElem?_eq_some_iff.1 hu).1
        rw [e1, hk.drew.cell, List.getElem?_toArray, hc0, List.getElem?_append_left (by rw [hf]; omega), ← hu, ← flat_drop rwc_len, List.getElem?_drop])
      (by rw [hd, List.size_toArray, hcl]; omega) (flat_one rwc_one _)
    rw [h1, hc1]
  have hk1 : Bk (w.drew.setRow g cur1.toArray) g 28 cur1.toArray := hk.drew.setRow _
  have hv1 : Bk (w.drew.setRow g cur1.toArray) vb 28 (rwc x).toArray := hv.of (setRow_other w.drew g vb _ hvb)
  have hcp2 : ∀ ty dc, (Builtin.copy_ #[24, 24] ty #[.slice (some ⟨g, i * 2, none⟩) (L + 1 - i) dc, .slice (some ⟨vb, 0, none⟩) 1 1]).run Try.prog (w.drew.setRow g cur1.toArray) = .ok (goInt (Nat.min 1 (L + 1 - i))) ((w.drew.setRow g cur1.toArray).setRow g cur2.toArray) := fun ty dc => by
    have h1 := run_copy_whole (P := Try.prog) (w.drew.setRow g cur1.toArray) 24 24 ty 28 2 g (i * 2) (L + 1 - i) dc ⟨vb, 0, none⟩ 1 1 cur1.toArray 28 (rwc x) Try.underlying24 hsz hk1
      (by rw [rwc_len, show Nat.min 1 (L + 1 - i) = 1 from Nat.min_eq_left (by omega)])
      (fun j u hu => by
        have e1 : (⟨vb, 0, none⟩ : Addr).add j = ⟨vb, j, none⟩ := by unfold Addr.add; split <;> simp_all
        rw [e1, hv1.cell, List.getElem?_toArray, hu])
      (by rw [rwc_len, List.size_toArray, hcl1]; omega) (rwc_one _)
    rw [h1, hc2]
  have hk2 : Bk ((w.drew.setRow g cur1.toArray).setRow g cur2.toArray) g 28 cur2.toArray := hk1.setRow _
  have hlen2 : (l.take i ++ x :: l.drop i).length = L + 1 := by simp only [List.length_append, List.length_cons, List.length_take, List.length_drop]; omega
  have HLEN := Lib.hid hlen2
  have hcl2 : cur2.length = cap * 2 := by rw [hc2]; simp only [List.length_append, List.length_take, List.length_drop, rwc_len, hcl1]; omega
  have HRD : Hid (Rb ((w.drew.setRow g cur1.toArray).setRow g cur2.toArray) g cap (l.take i ++ x :: l.drop i)) := Lib.hid ⟨⟨_, by rw [← hfin]; exact hk2, by rw [hfin, List.length_append, flat_len rwc_len] at hcl2; exact hcl2⟩, by rw [hlen2]; exact hroom, h.max⟩
  have HM : Hid (Mut w ((w.drew.setRow g cur1.toArray).setRow g cur2.toArray) [g]) := Lib.hid ((((Mut.refl w [g]).drew).setRow (by simp) _).setRow (by simp) _)
  have hov : ∀ n c n2 c2, (callFunc 76 #[.slice (some ⟨vb, 0, none⟩) n c, .slice (some ⟨g, (i + 1) * 2, none⟩) n2 c2]).run Try.prog w = .ok (.value (.bool false)) w := fun n c n2 c2 => overlaps_no hv hk hvb (by rw [List.size_toArray, hcl]; omega) _ _ _ _ _
  have HC1 := Lib.hid hcp1
  have HC2 := Lib.hid hcp2
  have hw1 : IntKind.i64.wrap ((i : Int) + 1) = (i : Int) + 1 := IntWalk.i64_in _ (by omega)
  have hw2 : IntKind.i64.wrap ((L : Int) + 1) = (L : Int) + 1 := IntWalk.i64_in _ (by omega)
  have hb1 : (0 : Int) ≤ (i : Int) + 1 := by omega
  have hin : i ≤ L := by omega
  have htn : ((i : Int) + 1).toNat = i + 1 := by omega
  have hb2 : ¬ (cap = i + 1) := by omega
  have hb3 : (i : Int) ≤ (L : Int) + 1 := by omega
  have hb5 : (i : Int) + 1 ≤ (L : Int) + 1 := by omega
  have hb4 : ¬ (cap = i) := by omega
  have hb6 : ((L : Int) + 1).toNat = L + 1 := by omega
  have hb7 : (0 : Int) ≤ (L : Int) + 1 := by omega
  have hb8 : (L : Int) + 1 ≤ (cap : Int) := by omega
  have hb9 : ((i : Int) == (L : Int)) = false := by rw [beq_eq_false_iff_ne]; omega
  have hb10 : (i : Int) ≤ (L : Int) := by omega
  have hb11 : decide ((cap : Int) < (L : Int) + 1) = false := decide_eq_false (by omega)
  clear hcp1 hcp2 hk hk1 hk2 hv hv1 hc0 hc1 hc2 hcl hcl1 hcl2 hct hfin hf hd hs h hlen2 hL
  go_enter Try.func67, Try.ntmps67
  go_wp2_with (simp only [hov])

  go_region_law (refine step_copy_runI rfl _ _ 24 24 rfl _ _ (by simp [Act.eval, Act.put]) (by simp [Act.eval, Act.put]) (HC1.out _ (cap - (i + 1)) (cap - i)) ?_)
  have hcl := HC2.out 3 (cap - i)
  go_wp2_with fail
  go_ret
  exact ⟨g, cap, by rw [HLEN.out]; rfl, HRD.out, Or.inl rfl, HM.out⟩


set_option maxHeartbeats 4000000 in
set_option maxRecDepth 100000 in
theorem insGrow_any {w : World} {g cap vb i L : Nat} {l : List Rw} {x : Rw} (h : Rb w g cap l) (hv : Bk w vb 28 (rwc x).toArray) (hL : L = l.length) (hi : i < L) (hN : L ≤ 10000) (hroom : cap < L + 1) :
    Calls Try.prog 67 #[.slice (some ⟨g, 0, none⟩) L cap, .int .i64 i, .slice (some ⟨vb, 0, none⟩) 1 1] w (InsR w g (l.take i ++ x :: l.drop i)) := by
  have hle := h.le
  rw [← hL] at hle
  obtain rfl : cap = L := by omega
  obtain ⟨sp, hk, hs⟩ := h.ex
  obtain ⟨i0, hi0, hz0, hz1, hz2⟩ := info_parts info_row
  have hsz : (Try.prog.info? 28).map (·.size) = some 2 := size_row
  have hf := flat_len rwc_len l
  have hd := flat_len rwc_len (l.drop i)
  have hft := flat_len rwc_len (l.take i)
  rw [List.length_drop, ← hL] at hd
  rw [List.length_take, Nat.min_eq_left (by omega)] at hft
  rw [← hL] at hf hs
  have hgw := hk.lt
  have hvw := hv.lt
  have hkd : ∀ (W : World), (∀ b, b < w.heap.size → W.heap[b]? = w.heap[b]?) → ∀ j u, (flat rwc (l.drop i))[j]? = some u → W.cell? ((⟨g, i * 2, none⟩ : Addr).add j) = some u := fun W hW j u hu => by
    have e1 : (⟨g, i * 2, none⟩ : Addr).add j = ⟨g, i * 2 + j, none⟩ := by unfold Addr.add; split <;> simp_all
    have hj : j < (cap - i) * 2 := by rw [← hd]; exact (List.getElem?_eq_some_iff.1 hu).1
    rw [e1, (hk.of (hW g hgw)).cell, List.getElem?_toArray, List.getElem?_append_left (by rw [hf]; omega), ← hu, ← flat_drop rwc_len, List.getElem?_drop]
  have hold : (Builtin.firstCells i0.size i (.slice (some ⟨g, 0, none⟩) i cap)).run Try.prog w.drew = .ok (flat rwc (l.take i)).toArray w.drew := by
    rw [hz1]
    exact run_firstCells_some w.drew 2 i ⟨g, 0, none⟩ i cap (flat rwc (l.take i)) hft (fun j u hu => by
      have e1 : (⟨g, 0, none⟩ : Addr).add j = ⟨g, j, none⟩ := by unfold Addr.add; split <;> simp_all
      rw [← flat_take rwc_len, List.getElem?_take] at hu
      split at hu
      · rw [e1, hk.drew.cell, List.getElem?_toArray, List.getElem?_append_left (by rw [hf]; omega), hu]
      · cases hu)
  have hik : i + (cap + 1 - i) = cap + 1 := by omega
  have hkk : (cap : Int) + 1 - (i : Int) = ((cap + 1 - i : Nat) : Int) := by omega
  obtain ⟨G, hG⟩ : ∃ G, G = grownCap w (cap + 1) cap 28 := ⟨_, rfl⟩
  obtain ⟨cur, hc0⟩ : ∃ cur : List Value, cur = flat rwc (l.take i) ++ ((Builtin.zeroCells (Value.agg #[.string ⟨#[]⟩, .int .i64 0]).cells (cap + 1 - i)).toList ++ (Builtin.zeroCells (Value.agg #[.string ⟨#[]⟩, .int .i64 0]).cells (G - (cap + 1))).toList) := ⟨_, rfl⟩
  have hGn : cap + 1 ≤ G := by rw [hG]; exact grownCap_ge w _ _ _
  have hGm : G ≤ maxLen := by rw [hG]; exact grownCap_le_maxLen w (cap + 1) cap 28 (by unfold maxLen; omega)
  have hG63 : G ≤ 9223372036854775807 := by
    have := hGm
    unfold maxLen at this
    omega
  have hcl : cur.length = G * 2 := by
    rw [hc0]
    simp only [List.length_append, Array.length_toList, size_zeroCells, hft]
    show i * 2 + ((cap + 1 - i) * 2 + (G - (cap + 1)) * 2) = G * 2
    omega
  have hct : cur.take (i * 2) = flat rwc (l.take i) := by rw [hc0, ← hft]; exact List.take_left
  have hrz : ∀ ty, (Builtin.append_ #[24, 3] ty #[.slice (some ⟨g, 0, none⟩) i cap, .int .i64 ((cap : Int) + 1 - (i : Int))]).run Try.prog w =
      .ok (.slice (some ⟨w.heap.size, 0, none⟩) (cap + 1) G) (w.drew.alloc (.cells cur.toArray 28)) := fun ty => by
    have h := Lib.run_append_grow_zeros w 24 3 ty 28 i0 _ .i64 .i64 Try.underlying24 Try.underlying3 hi0 hz0 (some ⟨g, 0, none⟩) i cap (flat rwc (l.take i)) hold (cap + 1 - i) (by omega) (by omega) (by omega) (by omega) (by rw [hz2]; omega) (by rw [hz2, hik]; exact growslice_fits (by omega) (by omega))
    rw [hik, ← hG] at h
    rw [hkk, h, hc0]
    congr 3

    refine Array.ext' ?_
    simp
  obtain ⟨cur1, hc1⟩ : ∃ cur1, cur1 = cur.take (i * 2) ++ rwc x ++ cur.drop (i * 2 + (rwc x).length) := ⟨_, rfl⟩
  have hcl1 : cur1.length = G * 2 := by rw [hc1]; simp only [List.length_append, List.length_take, List.length_drop, rwc_len, hcl]; omega
  obtain ⟨cur2, hc2⟩ : ∃ cur2, cur2 = cur1.take ((i + 1) * 2) ++ flat rwc (l.drop i) ++ cur1.drop ((i + 1) * 2 + (flat rwc (l.drop i)).length) := ⟨_, rfl⟩
  have hfin : cur2 = flat rwc (l.take i ++ x :: l.drop i) ++ cur1.drop ((i + 1) * 2 + (flat rwc (l.drop i)).length) := by rw [hc2]; exact ins_grow hct (by omega) hc1 _
  obtain ⟨W1, hW1⟩ : ∃ W1, W1 = w.drew.alloc (.cells cur.toArray 28) := ⟨_, rfl⟩
  rw [← hW1] at hrz
  have hb1 : Below w.heap.size w W1 := by rw [hW1]; exact ((Below.refl w.heap.size w).drew).alloc (Nat.le_refl _) _
  have hk1 : Bk W1 w.heap.size 28 cur.toArray := by rw [hW1]; exact Bk.new w.drew _ _
  have hcpA : ∀ ty dc, (Builtin.copy_ #[24, 24] ty #[.slice (some ⟨w.heap.size, i * 2, none⟩) (cap + 1 - i) dc, .slice (some ⟨vb, 0, none⟩) 1 1]).run Try.prog W1 = .ok (goInt (Nat.min 1 (cap + 1 - i))) (W1.setRow w.heap.size cur1.toArray) := fun ty dc => by
    have h1 := run_copy_whole (P := Try.prog) W1 24 24 ty 28 2 w.heap.size (i * 2) (cap + 1 - i) dc ⟨vb, 0, none⟩ 1 1 cur.toArray 28 (rwc x) Try.underlying24 hsz hk1
      (by rw [rwc_len, show Nat.min 1 (cap + 1 - i) = 1 from Nat.min_eq_left (by omega)])
      (fun j u hu => by
        have e1 : (⟨vb, 0, none⟩ : Addr).add j = ⟨vb, j, none⟩ := by unfold Addr.add; split <;> simp_all
        rw [e1, (hv.of (hb1.block vb hvw)).cell, List.getElem?_toArray, hu])
      (by rw [rwc_len, List.size_toArray, hcl]; omega) (rwc_one _)
    rw [h1, hc1]
  obtain ⟨W2, hW2⟩ : ∃ W2, W2 = (W1.setRow w.heap.size cur1.toArray).drew := ⟨_, rfl⟩
  have hb2 : Below w.heap.size w W2 := by rw [hW2]; exact (((Mut.of_below (F := [w.heap.size]) hb1).setRow (by simp) _).drew).below (by simp) (Nat.le_refl _)
  have hk2 : Bk W2 w.heap.size 28 cur1.toArray := by rw [hW2]; exact (hk1.setRow _).drew
  have hcpB : ∀ ty dc sc, (Builtin.copy_ #[24, 24] ty #[.slice (some ⟨w.heap.size, (i + 1) * 2, none⟩) (cap - i) dc, .slice (some ⟨g, i * 2, none⟩) (cap - i) sc]).run Try.prog W2 = .ok (goInt (Nat.min (cap - i) (cap - i))) (W2.setRow w.heap.size cur2.toArray) := fun ty dc sc => by
    have h1 := run_copy_whole (P := Try.prog) W2 24 24 ty 28 2 w.heap.size ((i + 1) * 2) (cap - i) dc ⟨g, i * 2, none⟩ (cap - i) sc cur1.toArray 28 (flat rwc (l.drop i)) Try.underlying24 hsz hk2
      (by rw [hd, show Nat.min (cap - i) (cap - i) = cap - i from Nat.min_eq_left (Nat.le_refl _)])
      (hkd W2 (fun b hb => hb2.block b hb))
      (by rw [hd, List.size_toArray, hcl1]; omega) (flat_one rwc_one _)
    rw [h1, hc2]
  have hk3 : Bk (W2.setRow w.heap.size cur2.toArray) w.heap.size 28 cur2.toArray := hk2.setRow _
  have hlen2 : (l.take i ++ x :: l.drop i).length = cap + 1 := by simp only [List.length_append, List.length_cons, List.length_take, List.length_drop]; omega
  have HLEN := Lib.hid hlen2
  have hcl2 : cur2.length = G * 2 := by rw [hc2]; simp only [List.length_append, List.length_take, List.length_drop, hd, hcl1]; omega
  have HRD : Hid (Rb (W2.setRow w.heap.size cur2.toArray) w.heap.size G (l.take i ++ x :: l.drop i)) := Lib.hid ⟨⟨_, by rw [← hfin]; exact hk3, by rw [hfin, List.length_append, flat_len rwc_len] at hcl2; exact hcl2⟩, by rw [hlen2]; exact hGn, hGm⟩
  have HM : Hid (Mut w (W2.setRow w.heap.size cur2.toArray) [g]) := Lib.hid (Mut.of_below (((Mut.of_below (F := [w.heap.size]) hb2).setRow (by simp) _).below (by simp) (Nat.le_refl _)))
  subst hW2
  have HA := Lib.hid hcpA
  have HB := Lib.hid hcpB
  have HZ := Lib.hid hrz
  have hw1 : IntKind.i64.wrap ((i : Int) + 1) = (i : Int) + 1 := IntWalk.i64_in _ (by omega)
  have hw2 : IntKind.i64.wrap ((cap : Int) + 1) = (cap : Int) + 1 := IntWalk.i64_in _ (by omega)
  have hw3 : IntKind.i64.wrap ((cap : Int) + 1 - (i : Int)) = (cap : Int) + 1 - (i : Int) := IntWalk.i64_in _ (by omega)
  have gb1 : (0 : Int) ≤ (i : Int) + 1 := by omega
  have gin : i ≤ cap := by omega
  have gtn : ((i : Int) + 1).toNat = i + 1 := by omega
  have gb3 : (i : Int) ≤ (cap : Int) + 1 := by omega
  have gb5 : (i : Int) + 1 ≤ (cap : Int) + 1 := by omega
  have gb4 : ¬ (cap = i) := by omega
  have gb9 : ((i : Int) == (cap : Int)) = false := by rw [beq_eq_false_iff_ne]; omega
  have gb10 : (i : Int) ≤ (cap : Int) := by omega
  have gb11 : decide ((cap : Int) < (cap : Int) + 1) = true := decide_eq_true (by omega)
  have gb12 : ¬ (G = i) := by omega
  have gb13 : ¬ (G = i + 1) := by omega
  clear hcpA hcpB hk hk1 hk2 hk3 hv hc0 hc1 hc2 hcl hcl1 hcl2 hct hfin hf hd hs h hlen2 hL hW1 hrz hG hGm hkd hold hft hb1 hb2 hik hkk
  go_enter Try.func67, Try.ntmps67
  go_wp2_with (at_builtin; refine Lib.wpList_append_run _ rfl _ _ _ _ rfl _ _ rfl rfl _ _ (HZ.out _) ?_; have hcA := HA.out 3 (G - i))
  go_region_law (refine step_copy_runI rfl _ _ 24 24 rfl (.slice (some ⟨w.heap.size, (i + 1) * 2, none⟩) (cap - i) (G - (i + 1))) (.slice (some ⟨g, i * 2, none⟩) (cap - i) (cap - i)) (by simp [Act.eval, Act.put]) (by simp [Act.eval, Act.put]) (HB.out 3 (G - (i + 1)) (cap - i)) ?_)
  go_wp2_with fail
  go_ret
  exact ⟨w.heap.size, G, by rw [HLEN.out]; rfl, HRD.out, Or.inr (Nat.le_refl _), HM.out⟩


/-- slices.Insert of one row. -/
theorem insert1_any {w : World} {g cap vb i L : Nat} {l : List Rw} {x : Rw} (h : Rb w g cap l) (hv : Bk w vb 28 (rwc x).toArray) (hvb : vb ≠ g) (hL : L = l.length) (hi : i ≤ L) (hN : L ≤ 10000) :
    Calls Try.prog 67 #[.slice (some ⟨g, 0, none⟩) L cap, .int .i64 i, .slice (some ⟨vb, 0, none⟩) 1 1] w (InsR w g (l.take i ++ x :: l.drop i)) := by
  by_cases he : i = L
  · subst he
    subst hL
    rw [List.take_length, List.drop_length]
    exact insEnd_any h hv hN
  · by_cases hr : L + 1 ≤ cap
    · exact insRoom_any h hv hvb hL (by omega) hN hr
    · exact insGrow_any h hv hL (by omega) hN (by omega)

end Go.Proofs.Ytaidaohkbbdimaa
