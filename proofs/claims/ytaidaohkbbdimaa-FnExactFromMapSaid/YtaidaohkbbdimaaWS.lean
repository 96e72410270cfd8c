/-
  The walks, part S: spec.Done, spec.Rows.
-/
import Derived.Test.YtaidaohkbbdimaaWP
import Derived.Test.YtaidaohkbbdimaaWQ
import Derived.Deep.Cut
namespace Go.Proofs.Ytaidaohkbbdimaa
open Go.RowKit

theorem Rb.bel {w w' : World} {g cap : Nat} {l : List Rw} (h : Rb w g cap l) (hb : Below w.heap.size w w') : Rb w' g cap l := by
  obtain ⟨sp, hk, hs⟩ := h.ex
  exact ⟨⟨sp, hk.of (hb.block g hk.lt), hs⟩, h.le, h.max⟩
theorem Rb.rd {w : World} {g cap : Nat} {l : List Rw} (h : Rb w g cap l) : Rd w 2 (some ⟨g, 0, none⟩) l.length (flat rwc l) := by
  obtain ⟨sp, hk, hs⟩ := h.ex
  exact rd_pre hk
theorem Rb.lt {w : World} {g cap : Nat} {l : List Rw} (h : Rb w g cap l) : g < w.heap.size := by
  obtain ⟨sp, hk, hs⟩ := h.ex
  exact hk.lt

theorem Rb.far {w : World} {g cap : Nat} {l : List Rw} (h : Rb w g cap l) {p : Addr} (hp : g ≠ p.block) (v : Value) : Rb (w.setCell p v) g cap l := by
  obtain ⟨sp, hk, hs⟩ := h.ex
  exact ⟨⟨sp, hk.far hp v, hs⟩, h.le, h.max⟩
theorem Rb.ne_ {w : World} {g cap b : Nat} {l : List Rw} {ty : TypeId} {cs : Array Value} (h : Rb w g cap l) (hb : Bk w b ty cs) (hne : 28 ≠ ty) : g ≠ b := by
  obtain ⟨sp, hk, hs⟩ := h.ex
  exact hk.ne_ hb hne
theorem Rb.fz {w : World} {g cap : Nat} {l : List Rw} (h : Rb w g cap l) (i : Nat) : w.frozen? ⟨g, i, none⟩ = false := by
  obtain ⟨sp, hk, hs⟩ := h.ex
  exact hk.frozen i
theorem set_val : ∀ (l : List Rw) (i : Nat) (hi : i < l.length) (v : Int), (flat rwc l).set (i * 2 + 1) (.int .i64 v) = flat rwc (l.set i (l[i].1, v))
  | [], _, hi, _ => by simp at hi
  | x :: l, 0, _, v => by simp [flat, rwc]
  | x :: l, i + 1, hi, v => by
    have h := set_val l i (by simpa using hi) v
    rw [flat_cons, show (i + 1) * 2 + 1 = (i * 2 + 1) + 2 by omega]
    rw [List.set_cons_succ, flat_cons, List.set_append_right _ _ (by rw [rwc_len]; omega), rwc_len, Nat.add_sub_cancel, h]
    simp
theorem Rb.val {w : World} {g cap i : Nat} {l : List Rw} (h : Rb w g cap l) (hi : i < l.length) (v : Int) : Rb (w.setCell ⟨g, i * 2 + 1, none⟩ (.int .i64 v)) g cap (l.set i (l[i].1, v)) := by
  obtain ⟨sp, hk, hs⟩ := h.ex
  refine ⟨⟨sp, ?_, by rw [List.length_set]; exact hs⟩, by rw [List.length_set]; exact h.le, h.max⟩
  have h1 := hk.set_ (i * 2 + 1) (.int .i64 v)
  have e : (flat rwc l ++ sp).toArray.setIfInBounds (i * 2 + 1) (.int .i64 v) = (flat rwc (l.set i (l[i].1, v)) ++ sp).toArray := by
    rw [List.setIfInBounds_toArray, List.set_append_left _ _ (by rw [flat_len rwc_len]; omega), set_val l i hi v]
  rw [e] at h1
  exact h1

theorem at_lt {l : List Rw} {k : Bs} {I L : Nat} (hI : I = atIx l k) (hK : true = atOk l k) (hL : L = l.length) : I < L := by
  rw [hI, hL]
  unfold atOk at hK
  rcases Nat.lt_or_ge (atIx l k) l.length with h2 | h2
  · exact h2
  · rw [List.getElem?_eq_none h2] at hK; cases hK

theorem own_weak {w : World} {B : Nat} {e : TypeId} {k : Nat} {v : Value} {n : Nat} {xs : List Value} (h : w.ownsRow B e k v n xs) : w.ownsRow 0 e k v n xs := by
  refine ⟨h.1, ?_⟩
  rcases h.2 with h | ⟨g, cap, cur, h1, _, h2⟩
  · exact Or.inl h
  · exact Or.inr ⟨g, cap, cur, h1, Nat.zero_le _, h2⟩
theorem own_apart {w : World} {B B' : Nat} {e e' : TypeId} {k k' : Nat} {v v' : Value} {n n' : Nat} {xs xs' : List Value} (h : w.ownsRow B e k v n xs) (h' : w.ownsRow B' e' k' v' n' xs') (hne : e ≠ e') : ∀ b, v.ownBlock = some b → b ∉ v'.ownBlock.toList := by
  intro b hb hi
  rcases h'.2 with ⟨h1, _⟩ | ⟨g, cap, cur, h1, _, h2, _⟩
  · rw [h1] at hi; cases hi
  · have hk : Bk w g e' cur := h2
    rw [h1] at hi
    have e1 : b = g := by simpa [Value.ownBlock] using hi
    exact own_ne_bk h hk hne (e1 ▸ hb)
theorem own_below {w w' : World} {B : Nat} {e : TypeId} {k : Nat} {v : Value} {n : Nat} {xs : List Value} (h : w.ownsRow B e k v n xs) (hb : Below w.heap.size w w') : w'.ownsRow B e k v n xs := own_of h fun b hbb => hb.block b (own_lt h hbb)

/-- What Done answers and leaves. -/
def DoneR (w : World) (l : List Rw) (o : Opr) (e : Ending) (w' : World) : Prop :=
  ∃ A c, e = .returned (.tuple #[.slice A (step l o).length c, gtv (got l o)]) ∧ w'.ownsRow 0 28 2 (.slice A (step l o).length c) (step l o).length (flat rwc (step l o)) ∧ Below w.heap.size w w'

set_option maxHeartbeats 4000000 in
set_option maxRecDepth 100000 in
theorem done_any {w : World} {A : Option Addr} {c : Nat} {l : List Rw} (o : Opr) (hs : Srt l) (h : Rd w 2 A l.length (flat rwc l)) (hl : l.length ≤ 1000) :
    Calls Try.prog 52 #[.slice A l.length c, opv o] w (DoneR w l o) := by
  unfold opv
  obtain ⟨W3, hW3⟩ : ∃ W3, W3 = ((w.alloc (.cells #[.int .i64 o.kind, .string (ba o.key), .int .i64 o.val] 37)).alloc (.cells #[.int .i64 0, .bool false] 39)).alloc (.cells #[] 28) := ⟨_, rfl⟩
  have hb3 : Below w.heap.size w W3 := by rw [hW3]; exact (((Below.refl _ w).alloc (Nat.le_refl _) _).alloc (by simp) _).alloc (by simp; omega) _
  have hs3 : W3.heap.size = w.heap.size + 3 := by rw [hW3]; simp
  have hk3 : Bk W3 w.heap.size 37 #[.int .i64 o.kind, .string (ba o.key), .int .i64 o.val] := by rw [hW3]; exact ((Bk.new w _ _).alloc _).alloc _
  have hk5 : Bk W3 (w.heap.size + 1) 39 #[.int .i64 0, .bool false] := by
    have := (Bk.new (w.alloc (.cells #[.int .i64 o.kind, .string (ba o.key), .int .i64 o.val] 37)) 39 #[.int .i64 0, .bool false]).alloc (.cells #[] 28)
    rw [World.size_alloc] at this; rw [hW3]; exact this
  have how : Acc 28 rwc 2 w W3 (.slice (some ⟨w.heap.size + 2, 0, none⟩) 0 0) [] := by
    have := Bk.new ((w.alloc (.cells #[.int .i64 o.kind, .string (ba o.key), .int .i64 o.val] 37)).alloc (.cells #[.int .i64 0, .bool false] 39)) 28 #[]
    rw [World.size_alloc, World.size_alloc] at this
    rw [hW3]
    exact ⟨own_empty this (by omega), by rw [← hW3]; exact hb3⟩
  subst hW3
  have HOW := Lib.hid how
  have HK3 := Lib.hid hk3
  have HK5 := Lib.hid hk5
  have HB3 := Lib.hid hb3
  have HR := Lib.hid h
  have HSRT := Lib.hid hs
  obtain ⟨L, hL⟩ : ∃ L, L = l.length := ⟨_, rfl⟩
  rw [← hL] at HR hl
  rw [← hL]
  have HL := Lib.hid hL
  clear how hk3 hk5 hb3 h hs hL hs3
  go_enter Try.func52, Try.ntmps52
  obtain ⟨I, hI⟩ : ∃ I, I = atIx l o.key := ⟨_, rfl⟩
  obtain ⟨K, hK⟩ : ∃ K, K = atOk l o.key := ⟨_, rfl⟩
  have HI := Lib.hid hI
  have HK := Lib.hid hK
  have hIL : I ≤ L := by rw [hI, HL.out]; exact atIx_le _ _
  clear hI hK
  go_wp2_with (
    (at_builtin; refine wpList_many rec_row rfl rfl HOW.out.row HOW.out.bel.size (by simp; omega) (by omega) rfl rfl HL.out (HR.out.bel HB3.out) ?_; intro v1 w4 hap
     rw [List.nil_append] at hap
     obtain ⟨g, cap, hv1, hBg, hRb, _⟩ := hap.blk rfl
     have hA4 := HOW.out.app hap
     have hk3' := HK3.out.of (hap.turned.block _ HK3.out.lt (by simp [Value.ownBlock]))
     have hk5' := HK5.out.of (hap.turned.block _ HK5.out.lt (by simp [Value.ownBlock]))
     have k1 : w4.cell? ⟨w.heap.size, 1, none⟩ = some (.string (ba o.key)) := by rw [hk3'.cell]; rfl
     have HB4 := Lib.hid hA4.bel
     have HRB := Lib.hid hRb
     have HK3' := Lib.hid hk3'
     have HK5' := Lib.hid hk5'
     rw [← HL.out] at hv1
     subst hv1
     clear hap hA4 hk3' hk5' hRb))
  have hat := at_any (c := cap) o.key HRB.out.rd (by rw [← HL.out]; omega)
  rw [← HI.out, ← HK.out, ← HL.out] at hat
  refine hat.mono ?_
  clear hat k1
  rintro e w5 ⟨rfl, hb5⟩
  have HB5 := Lib.hid (HB4.out.trans (hb5.mono HB4.out.size))
  have HRB5 := Lib.hid (HRB.out.bel hb5)
  have HK35 := Lib.hid (HK3'.out.of (hb5.block _ HK3'.out.lt))
  have HK55 := Lib.hid (HK5'.out.of (hb5.block _ HK5'.out.lt))
  clear hb5 HRB HK3' HK5' HB4 HOW HK3 HK5 HB3
  obtain ⟨b9, hb9⟩ : ∃ b9, b9 = w5.heap.size := ⟨_, rfl⟩
  obtain ⟨W6, hW6⟩ : ∃ W6, W6 = w5.alloc (.cells #[.int .i64 0, .bool false] 39) := ⟨_, rfl⟩
  have hbA : Below w5.heap.size w5 W6 := by rw [hW6]; exact (Below.refl _ w5).alloc (Nat.le_refl _) _
  have hk9 : Bk W6 b9 39 #[.int .i64 0, .bool false] := by rw [hW6, hb9]; exact Bk.new _ _ _
  have HBA := Lib.hid hbA
  have HK9 := Lib.hid hk9
  have HB9 := Lib.hid hb9
  go_upto_if 22 with fail
  rw [← hW6, ← hb9]
  clear hW6 hb9 hbA hk9
  obtain ⟨V, hV⟩ : ∃ V : Int, V = if K then (l[I]?.map (·.2)).getD 0 else 0 := ⟨_, rfl⟩
  have HV := Lib.hid hV
  clear hV
  go_cut [8] from 10 to 28 (fun s8 wx => s8 = .bool K ∧ Hid (Below w5.heap.size w5 wx ∧ Bk wx b9 39 #[.int .i64 V, .bool K]))
  case first =>
    cases K with
    | true =>
      have hIL2 : I < l.length := by
        have h1 := HK.out
        rw [HI.out]
        unfold atOk at h1
        rcases Nat.lt_or_ge (atIx l o.key) l.length with h2 | h2
        · exact h2
        · rw [List.getElem?_eq_none h2] at h1; cases h1
      have hIL3 : I < L := by have := HL.out; omega
      have hIL4 : (I : Int) < (L : Int) := by omega
      have hV2 : V = l[I].2 := by rw [HV.out, if_pos rfl, List.getElem?_eq_getElem hIL2]; rfl
      obtain ⟨ad, hA1, _, c0, c1⟩ := (HRB5.out.bel HBA.out).rd.rw_ hIL2
      injection hA1 with hA1
      subst hA1
      rw [← hV2] at c1
      have e0 : (⟨g, 0, none⟩ : Addr).add (I * 2) = ⟨g, I * 2, none⟩ := by unfold Addr.add; split <;> simp_all
      rw [e0] at c1
      have f0 := HK9.out.frozen 0
      have f1 := HK9.out.frozen 1
      have q0 : W6.cell? ⟨b9, 0, none⟩ = some (.int .i64 0) := by rw [HK9.out.cell]; rfl
      have q1 : W6.cell? ⟨b9, 1, none⟩ = some (.bool false) := by rw [HK9.out.cell]; rfl
      clear c0 hV2 e0 hIL2
      go_wp2_with fail
      go_meet
      case rel =>
        refine ⟨rfl, Lib.hid ⟨?_, ?_⟩⟩
        · exact (HBA.out.setCell (p := ⟨b9, 0, none⟩) (by rw [HB9.out]; exact Nat.le_refl _) _).setCell (p := ⟨b9, 1, none⟩) (by rw [HB9.out]; exact Nat.le_refl _) _
        · exact (HK9.out.set_ 0 (.int .i64 V)).set_ 1 (.bool true)
    | false =>
      have hV2 : V = 0 := by rw [HV.out, if_neg (by simp)]
      go_wp2_with fail
      go_meet
      case rel =>
        exact ⟨rfl, Lib.hid ⟨HBA.out, by rw [hV2]; exact HK9.out⟩⟩
  case rest =>
    obtain ⟨rfl, HC⟩ := hcut
    have HB6 := Lib.hid (HB5.out.trans (HC.out.1.mono HB5.out.size))
    have HRB6 := Lib.hid (HRB5.out.bel HC.out.1)
    have HK36 := Lib.hid (HK35.out.of (HC.out.1.block _ HK35.out.lt))
    have HK56 := Lib.hid (HK55.out.of (HC.out.1.block _ HK55.out.lt))
    have HK96 := Lib.hid HC.out.2
    have HG : Hid (o.kind ≠ 2 → got l o = (V, K)) := Lib.hid (fun hne => by
      unfold got
      rw [if_neg hne, at_look HSRT.out, ← HI.out, ← HK.out, HV.out]
      have h1 := HK.out
      cases K with
      | false => rfl
      | true =>
        have hI2 : I < l.length := by
          rw [HI.out]
          unfold atOk at h1
          rcases Nat.lt_or_ge (atIx l o.key) l.length with h2 | h2
          · exact h2
          · rw [List.getElem?_eq_none h2] at h1; cases h1
        rw [List.getElem?_eq_getElem hI2]; rfl)
    have k0 : wc.cell? ⟨w.heap.size, 0, none⟩ = some (.int .i64 o.kind) := by rw [HK36.out.cell]; rfl
    have k1 : wc.cell? ⟨w.heap.size, 1, none⟩ = some (.string (ba o.key)) := by rw [HK36.out.cell]; rfl
    have k2 : wc.cell? ⟨w.heap.size, 2, none⟩ = some (.int .i64 o.val) := by rw [HK36.out.cell]; rfl
    have q0 : wc.cell? ⟨b9, 0, none⟩ = some (.int .i64 V) := by rw [HK96.out.cell]; rfl
    have q1 : wc.cell? ⟨b9, 1, none⟩ = some (.bool K) := by rw [HK96.out.cell]; rfl
    have r0 : wc.cell? ⟨w.heap.size + 1, 0, none⟩ = some (.int .i64 0) := by rw [HK56.out.cell]; rfl
    have r1 : wc.cell? ⟨w.heap.size + 1, 1, none⟩ = some (.bool false) := by rw [HK56.out.cell]; rfl
    have f0 : wc.frozen? ⟨w.heap.size + 1, 0, none⟩ = false := HK56.out.frozen 0
    have f1 : wc.frozen? ⟨w.heap.size + 1, 1, none⟩ = false := HK56.out.frozen 1
    clear HC HV HRB5 HB5 HK35 HK55 HBA HK9
    by_cases hq2 : o.kind = 2
    · have hc2 : (o.kind == 2) = true := by rw [beq_iff_eq]; exact hq2
      have hlp := len_parts l o.key
      obtain ⟨M, hM⟩ : ∃ M, M = nund l o.key := ⟨_, rfl⟩
      rw [← hM, ← HL.out] at hlp
      have hu := sunder_own (c := c) o.key false (HL.out ▸ HR.out.bel HB6.out) (by rw [← HL.out]; exact hl)
      rw [sel_false, ← hM, ← HL.out] at hu
      have HST : Hid (step l o = M) := Lib.hid (by unfold step; rw [if_neg (by omega), if_pos hq2, hM])
      have HGT : Hid (got l o = ((L : Int) - (M.length : Int), false)) := Lib.hid (by
        unfold got; rw [if_pos hq2]; congr 1; omega)
      have HLP := Lib.hid hlp
      have hMl : M.length ≤ L := by omega
      have hw1 : IntKind.i64.wrap ((L : Int) - (M.length : Int)) = (L : Int) - (M.length : Int) := IntWalk.i64_in _ (by omega)
      clear hM hlp hq2
      go_wp2_with fail
      refine hu.mono ?_
      clear hu
      rintro e w7 ⟨v1, rfl, ha1⟩
      have hb7 := ha1.bel
      obtain ⟨A1, c1, hv1⟩ := own_len ha1.row
      subst hv1
      have HR7 := Lib.hid ha1.row
      have hk57 := HK56.out.of (hb7.block _ HK56.out.lt)
      have HB7 := Lib.hid (HB6.out.trans (hb7.mono HB6.out.size))
      have HK57 := Lib.hid hk57
      have r0 : w7.cell? ⟨w.heap.size + 1, 0, none⟩ = some (.int .i64 0) := by rw [hk57.cell]; rfl
      have r1 : w7.cell? ⟨w.heap.size + 1, 1, none⟩ = some (.bool false) := by rw [hk57.cell]; rfl
      have f0 : w7.frozen? ⟨w.heap.size + 1, 0, none⟩ = false := hk57.frozen 0
      have f1 : w7.frozen? ⟨w.heap.size + 1, 1, none⟩ = false := hk57.frozen 1
      clear hb7 ha1 hk57
      go_wp2_with fail
      have hc := (HK57.out.set_ 0 (.int .i64 ((L : Int) - (M.length : Int)))).set_ 1 (.bool false)
      have e0 := hc.cell 0
      have e1 := hc.cell 1
      clear r0 r1 f0 f1 k0 k1 k2 q0 q1
      have hB := (HB7.out.setCell (p := ⟨w.heap.size + 1, 0, none⟩) (Nat.le_succ _) (.int .i64 ((L : Int) - (M.length : Int)))).setCell (p := ⟨w.heap.size + 1, 1, none⟩) (Nat.le_succ _) (.bool false)
      refine bodyPost_ret (v := .tuple #[.slice A1 M.length c1, .agg #[.int .i64 ((L : Int) - (M.length : Int)), .bool false]]) (by simp [results, Try.results52, go_sem, e0, e1]) rfl ⟨A1, c1, by rw [HST.out, HGT.out]; rfl, ?_, hB⟩
      rw [HST.out]
      have hne : ∀ b, (Value.slice A1 M.length c1).ownBlock = some b → b ≠ w.heap.size + 1 := fun b hbb e => own_ne_bk HR7.out HK57.out (by decide) (by rw [← e]; exact hbb)
      exact own_weak (own_of HR7.out fun b hbb => (Below.heap_setCell _ _ _ _ (hne b hbb)).trans (Below.heap_setCell _ _ _ _ (hne b hbb)))
    · have hc2 : (o.kind == 2) = false := by rw [beq_eq_false_iff_ne]; exact hq2
      have hgot := HG.out hq2
      have HGT := Lib.hid hgot
      have HGB : Hid (g ≠ w.heap.size + 1) := Lib.hid (HRB6.out.ne_ HK56.out (by decide))
      have HG3 : Hid (g ≠ w.heap.size) := Lib.hid (HRB6.out.ne_ HK36.out (by decide))
      have HG9 : Hid (g ≠ b9) := Lib.hid (HRB6.out.ne_ HK96.out (by decide))
      clear hgot HG
      by_cases hq1 : o.kind = 1
      · have hc1 : (o.kind == 1) = true := by rw [beq_iff_eq]; exact hq1
        have hst : step l o = l.take I ++ l.drop (I + if K then 1 else 0) := by
          unfold step; rw [if_pos hq1, at_drop1 HSRT.out, ← HI.out, ← HK.out]
        have HST := Lib.hid hst
        clear hst
        cases K with
        | true =>
          have hIL2 : I < L := at_lt HI.out HK.out HL.out
          obtain ⟨N, rfl⟩ : ∃ N, L = N + 1 := ⟨L - 1, by omega⟩
          have HE : Hid (step l o = l.eraseIdx I) := Lib.hid (by rw [HST.out, List.eraseIdx_eq_take_drop_succ]; rfl)
          have HD : Hid (Calls Try.prog 66 #[.slice (some ⟨g, 0, none⟩) (N + 1) cap, .int .i64 I, .int .i64 ((I : Int) + 1)] wc.drew (DelR wc.drew g cap (l.eraseIdx I))) :=
            Lib.hid (delete1_any (HRB6.out.bel ((Below.refl _ wc).drew)) (by rw [← HL.out]) (by omega) (by omega))
          have hw1 : IntKind.i64.wrap ((I : Int) + 1) = (I : Int) + 1 := IntWalk.i64_in _ (by omega)
          go_wp2_with fail
          go_region_law (first
            | (go_simp; go_at_call 66; refine HD.out.mono ?_
               rintro e w7 ⟨rfl, hRb7, hm7⟩
               have hk57 := HK56.out.of (hm7.block _ HK56.out.lt (by have := HGB.out; simp; omega))
               have hk97 := HK96.out.of (hm7.block _ HK96.out.lt (by have := HG9.out; simp; omega))
               have r0 : w7.cell? ⟨w.heap.size + 1, 0, none⟩ = some (.int .i64 0) := by rw [hk57.cell]; rfl
               have r1 : w7.cell? ⟨w.heap.size + 1, 1, none⟩ = some (.bool false) := by rw [hk57.cell]; rfl
               have f0 : w7.frozen? ⟨w.heap.size + 1, 0, none⟩ = false := hk57.frozen 0
               have f1 : w7.frozen? ⟨w.heap.size + 1, 1, none⟩ = false := hk57.frozen 1
               have q0 : w7.cell? ⟨b9, 0, none⟩ = some (.int .i64 V) := by rw [hk97.cell]; rfl
               have q1 : w7.cell? ⟨b9, 1, none⟩ = some (.bool true) := by rw [hk97.cell]; rfl
               have HRB7 := Lib.hid hRb7
               have HM7 := Lib.hid hm7
               have HK57 := Lib.hid hk57
               clear hRb7 hm7 hk57 hk97))
          all_goals go_wp2_with fail
          all_goals
            have hc := (HK57.out.set_ 0 (.int .i64 V)).set_ 1 (.bool true)
            have e0 := hc.cell 0
            have e1 := hc.cell 1
            clear r0 r1 f0 f1 k0 k1 k2 q0 q1
            have hB := ((HB6.out.drew.trans (HM7.out.below (B := w.heap.size) (by simpa using hBg) HB6.out.size)).setCell (p := ⟨w.heap.size + 1, 0, none⟩) (Nat.le_succ _) (.int .i64 V)).setCell (p := ⟨w.heap.size + 1, 1, none⟩) (Nat.le_succ _) (.bool true)
            refine bodyPost_ret (v := .tuple #[.slice (some ⟨g, 0, none⟩) (l.eraseIdx I).length cap, .agg #[.int .i64 V, .bool true]]) (by simp [results, Try.results52, go_sem, e0, e1]) rfl ⟨_, cap, by rw [HE.out, HGT.out]; rfl, ?_, hB⟩
            rw [HE.out]
            exact ((HRB7.out.far (p := ⟨w.heap.size + 1, 0, none⟩) HGB.out _).far (p := ⟨w.heap.size + 1, 1, none⟩) HGB.out _).own (Nat.zero_le _)
        | false =>
          have HE : Hid (step l o = l) := Lib.hid (by rw [HST.out]; exact List.take_append_drop I l)
          go_wp2_with fail
          go_region
          all_goals go_wp2_with fail
          all_goals
            have hc := (HK56.out.set_ 0 (.int .i64 V)).set_ 1 (.bool false)
            have e0 := (HK56.out.set_ 0 (.int .i64 V)).cell 0
            have e1 := hc.cell 1
            clear r0 r1 f0 f1 k0 k1 k2 q0 q1
            have hB := (HB6.out.drew.setCell (p := ⟨w.heap.size + 1, 0, none⟩) (Nat.le_succ _) (.int .i64 V)).setCell (p := ⟨w.heap.size + 1, 1, none⟩) (Nat.le_succ _) (.bool false)
            refine bodyPost_ret (v := .tuple #[.slice (some ⟨g, 0, none⟩) L cap, .agg #[.int .i64 V, .bool false]]) (by simp [results, Try.results52, go_sem, e0, e1]) rfl ⟨_, cap, by rw [HE.out, HGT.out, HL.out]; rfl, ?_, hB⟩
            rw [HE.out]
            exact (((HRB6.out.bel (Below.refl _ wc).drew).far (p := ⟨w.heap.size + 1, 0, none⟩) HGB.out _).far (p := ⟨w.heap.size + 1, 1, none⟩) HGB.out _).own (Nat.zero_le _)
      · have hc1 : (o.kind == 1) = false := by rw [beq_eq_false_iff_ne]; exact hq1
        have hst : step l o = l.take I ++ (o.key, o.val) :: l.drop (I + if K then 1 else 0) := by
          unfold step; rw [if_neg hq1, if_neg hq2, at_put, ← HI.out, ← HK.out]
        have HST := Lib.hid hst
        clear hst
        cases K with
        | true =>
          have hIL2 : I < L := at_lt HI.out HK.out HL.out
          have hIL3 : I < l.length := by have := HL.out; omega
          have hIL4 : (I : Int) < (L : Int) := by omega
          have hkey : l[I].1 = o.key := by
            have h1 := HK.out
            unfold atOk at h1
            rw [← HI.out, List.getElem?_eq_getElem hIL3] at h1
            exact (beq_iff_eq.1 h1.symm)
          have HE : Hid (step l o = l.set I (l[I].1, o.val)) := Lib.hid (by
            rw [HST.out, hkey]
            simp only [if_true]
            rw [List.set_eq_take_append_cons_drop, if_pos hIL3])
          obtain ⟨ad, hA1, _, c0, c1⟩ := HRB6.out.rd.rw_ hIL3
          injection hA1 with hA1
          subst hA1
          have ez : (⟨g, 0, none⟩ : Addr).add (I * 2) = ⟨g, I * 2, none⟩ := by unfold Addr.add; split <;> simp_all
          rw [ez] at c1
          obtain ⟨V0, hV0⟩ : ∃ V0, V0 = l[I].2 := ⟨_, rfl⟩
          rw [← hV0] at c1
          have fz := HRB6.out.fz (I * 2 + 1)
          have HV := Lib.hid (HRB6.out.val hIL3 o.val)
          have HEL : Hid ((l.set I (l[I].1, o.val)).length = L) := Lib.hid (by rw [List.length_set]; exact HL.out.symm)
          have hm1 : Mut wc (wc.setCell ⟨g, I * 2 + 1, none⟩ (.int .i64 o.val)) [g] := (Mut.refl wc [g]).setCell (Or.inl (by simp)) _
          obtain ⟨WS, hWS⟩ : ∃ WS, WS = wc.setCell ⟨g, I * 2 + 1, none⟩ (.int .i64 o.val) := ⟨_, rfl⟩
          rw [← hWS] at HV hm1
          have HWS := Lib.hid hWS
          have HM1 := Lib.hid hm1
          generalize l[I].1 = kk at *
          clear c0 ez hV0 hIL3 hm1 hWS
          go_upto_region 15 with fail
          rw [← HWS.out]
          have hk57 := HK56.out.of (HM1.out.block _ HK56.out.lt (by have := HGB.out; simp; omega))
          have hk97 := HK96.out.of (HM1.out.block _ HK96.out.lt (by have := HG9.out; simp; omega))
          have HK57 := Lib.hid hk57
          have s0 : WS.cell? ⟨w.heap.size + 1, 0, none⟩ = some (.int .i64 0) := by rw [hk57.cell]; rfl
          have s1 : WS.cell? ⟨w.heap.size + 1, 1, none⟩ = some (.bool false) := by rw [hk57.cell]; rfl
          have g0 : WS.frozen? ⟨w.heap.size + 1, 0, none⟩ = false := hk57.frozen 0
          have g1 : WS.frozen? ⟨w.heap.size + 1, 1, none⟩ = false := hk57.frozen 1
          have p0 : WS.cell? ⟨b9, 0, none⟩ = some (.int .i64 V) := by rw [hk97.cell]; rfl
          have p1 : WS.cell? ⟨b9, 1, none⟩ = some (.bool true) := by rw [hk97.cell]; rfl
          clear hk57 hk97 r0 r1 f0 f1 k0 k1 k2 q0 q1 c1 fz
          go_region
          all_goals go_wp2_with fail
          all_goals
            have hc := (HK57.out.set_ 0 (.int .i64 V)).set_ 1 (.bool true)
            have e0 := (HK57.out.set_ 0 (.int .i64 V)).cell 0
            have e1 := hc.cell 1
            clear s0 s1 g0 g1 p0 p1
            have hB := ((HB6.out.trans (HM1.out.below (B := w.heap.size) (by simpa using hBg) HB6.out.size)).drew.setCell (p := ⟨w.heap.size + 1, 0, none⟩) (Nat.le_succ _) (.int .i64 V)).setCell (p := ⟨w.heap.size + 1, 1, none⟩) (Nat.le_succ _) (.bool true)
            refine bodyPost_ret (v := .tuple #[.slice (some ⟨g, 0, none⟩) L cap, .agg #[.int .i64 V, .bool true]]) (by simp [results, Try.results52, go_sem, e0, e1]) rfl ⟨_, cap, by rw [HE.out, HGT.out, HEL.out]; rfl, ?_, hB⟩
            rw [HE.out]
            exact (((HV.out.bel (Below.refl _ WS).drew).far (p := ⟨w.heap.size + 1, 0, none⟩) HGB.out _).far (p := ⟨w.heap.size + 1, 1, none⟩) HGB.out _).own (Nat.zero_le _)
        | false =>
          have HE : Hid (step l o = l.take I ++ (o.key, o.val) :: l.drop I) := HST
          obtain ⟨WA, hWA⟩ : ∃ WA, WA = wc.drew.alloc (.cells #[.string (ba o.key), .int .i64 o.val] 28) := ⟨_, rfl⟩
          have hbA : Below wc.heap.size wc WA := by rw [hWA]; exact ((Below.refl wc.heap.size wc).drew).alloc (Nat.le_refl _) _
          have hkA : Bk WA wc.heap.size 28 (rwc (o.key, o.val)).toArray := by rw [hWA]; exact Bk.new wc.drew _ _
          have hgl := HRB6.out.lt
          have HD : Hid (Calls Try.prog 67 #[.slice (some ⟨g, 0, none⟩) L cap, .int .i64 I, .slice (some ⟨wc.heap.size, 0, none⟩) 1 1] WA (InsR WA g (l.take I ++ (o.key, o.val) :: l.drop I))) :=
            Lib.hid (insert1_any (HRB6.out.bel hbA) hkA (by omega) HL.out hIL (by omega))
          have HBA := Lib.hid hbA
          have hk97 := HK96.out.of (hbA.block _ HK96.out.lt)
          have p0 : (wc.alloc (.cells #[.string (ba o.key), .int .i64 o.val] 28)).cell? ⟨b9, 0, none⟩ = some (.int .i64 V) := by rw [(HK96.out.alloc _).cell]; rfl
          have p1 : (wc.alloc (.cells #[.string (ba o.key), .int .i64 o.val] 28)).cell? ⟨b9, 1, none⟩ = some (.bool false) := by rw [(HK96.out.alloc _).cell]; rfl
          have HK97 := Lib.hid hk97
          have HK57 := Lib.hid (HK56.out.of (hbA.block _ HK56.out.lt))
          clear hk97 hbA hkA hgl
          subst hWA
          go_wp2_with fail
          go_region_law (first
            | (go_simp; go_at_call 67; refine HD.out.mono ?_
               rintro e w7 ⟨g7, c7, rfl, hr7, hp7, hm7⟩
               have HGB7 : Hid (g7 ≠ w.heap.size + 1) := Lib.hid (by have h1 := HGB.out; have h2 := HK57.out.lt; rcases hp7 with h3 | h3 <;> omega)
               clear hp7
               have hk57 := HK57.out.of (hm7.block _ HK57.out.lt (by have := HGB.out; simp; omega))
               have hk98 := HK97.out.of (hm7.block _ HK97.out.lt (by have := HG9.out; simp; omega))
               have r0 : w7.cell? ⟨w.heap.size + 1, 0, none⟩ = some (.int .i64 0) := by rw [hk57.cell]; rfl
               have r1 : w7.cell? ⟨w.heap.size + 1, 1, none⟩ = some (.bool false) := by rw [hk57.cell]; rfl
               have f0 : w7.frozen? ⟨w.heap.size + 1, 0, none⟩ = false := hk57.frozen 0
               have f1 : w7.frozen? ⟨w.heap.size + 1, 1, none⟩ = false := hk57.frozen 1
               have q0 : w7.cell? ⟨b9, 0, none⟩ = some (.int .i64 V) := by rw [hk98.cell]; rfl
               have q1 : w7.cell? ⟨b9, 1, none⟩ = some (.bool false) := by rw [hk98.cell]; rfl
               have HR7 := Lib.hid hr7
               have HM7 := Lib.hid hm7
               have HK58 := Lib.hid hk57
               clear hr7 hm7 hk57 hk98))
          all_goals go_wp2_with fail
          all_goals
            have hc := (HK58.out.set_ 0 (.int .i64 V)).set_ 1 (.bool false)
            have e0 := hc.cell 0
            have e1 := hc.cell 1
            clear r0 r1 f0 f1 k0 k1 k2 q0 q1 p0 p1
            have hA := HB6.out.trans (HBA.out.mono HB6.out.size)
            have hB := ((hA.trans (HM7.out.below (B := w.heap.size) (by simpa using hBg) hA.size)).setCell (p := ⟨w.heap.size + 1, 0, none⟩) (Nat.le_succ _) (.int .i64 V)).setCell (p := ⟨w.heap.size + 1, 1, none⟩) (Nat.le_succ _) (.bool false)
            refine bodyPost_ret (v := .tuple #[.slice (some ⟨g7, 0, none⟩) (l.take I ++ (o.key, o.val) :: l.drop I).length c7, .agg #[.int .i64 V, .bool false]]) (by simp [results, Try.results52, go_sem, e0, e1]) rfl ⟨_, c7, by rw [HE.out, HGT.out]; rfl, ?_, hB⟩
            rw [HE.out]
            exact ((HR7.out.far (p := ⟨w.heap.size + 1, 0, none⟩) HGB7.out _).far (p := ⟨w.heap.size + 1, 1, none⟩) HGB7.out _).own (Nat.zero_le _)


theorem rows_snoc (ops : List Opr) (o : Opr) : rows (ops ++ [o]) = step (rows ops) o := by rw [rows_app]; rfl

set_option maxHeartbeats 2000000 in
set_option maxRecDepth 100000 in
theorem sRows_cap {w : World} {A : Option Addr} {c : Nat} {ops : List Opr} (h : Rd w 3 A ops.length (flat opc ops)) (hl : ops.length ≤ 1000) :
    Calls Try.prog 30 #[.slice A ops.length c] w (GivesC w (rows ops)) := by
  have HR := Lib.hid h
  clear h
  obtain ⟨L, hL⟩ : ∃ L, L = ops.length := ⟨_, rfl⟩
  rw [← hL] at hl HR
  rw [← hL]
  have HL := Lib.hid hL
  clear hL
  go_enter Try.func30, Try.ntmps30
  go_wp2_with fail
  go_loopg [3, 8] L (fun g v3 v8 wr => ∃ (i : Nat), v8 = .int .i64 i ∧ i ≤ L ∧ L - i ≤ g ∧ Below w.heap.size w wr ∧ ∃ (A1 : Option Addr) (n1 c1 : Nat), v3 = .slice A1 n1 c1 ∧ Hid (n1 = (rows (ops.take i)).length ∧ wr.ownsRow 0 28 2 (.slice A1 n1 c1) n1 (flat rwc (rows (ops.take i)))))
  case atStart => exact ⟨0, rfl, Nat.zero_le _, by omega, Below.refl _ _, none, 0, 0, rfl, Lib.hid ⟨rfl, by simp [flat, rows, rowsFrom], Or.inl ⟨rfl, rfl⟩⟩⟩
  case round =>
    obtain ⟨i, rfl, hiL, hg, hb, A1, n1, c1, rfl, HS⟩ := hrel
    by_cases hi : i < L
    · have hi2 : i < ops.length := by have := HL.out; omega
      have hlt : decide ((i : Int) < (L : Int)) = true := by simpa using hi
      have hR2 := HR.out.bel hb
      rw [HL.out] at hR2
      obtain ⟨ad, hA, hadl, d0, d1, d2⟩ := hR2.op hi2
      subst hA
      clear hR2
      have hb1 : Below wr.heap.size wr (wr.alloc (.cells #[.int .i64 ops[i].kind, .string (ba ops[i].key), .int .i64 ops[i].val] 37)) := (Below.refl _ wr).alloc (Nat.le_refl _) _
      have HB1 := Lib.hid (hb.trans (hb1.mono hb.size))
      have hlr : (rows (ops.take i)).length ≤ 1000 := by have := len_rows (ops.take i); have := List.length_take_le i ops; omega
      have hD := done_any (c := c1) ops[i] (srt_rows (ops.take i)) (HS.out.1 ▸ Rd.own (own_below HS.out.2 hb1)) hlr
      rw [← HS.out.1] at hD
      have HD := Lib.hid hD
      have HST : Hid (step (rows (ops.take i)) ops[i] = rows (ops.take (i + 1))) := Lib.hid (by rw [← rows_snoc, take_more2 hi2])
      clear hD hlr hb1 hb
      have hw1 : IntKind.i64.wrap ((i : Int) + 1) = (i : Int) + 1 := IntWalk.i64_in _ (by omega)
      go_wp2_with fail
      refine HD.out.mono ?_
      rintro e w2 ⟨A2, c2, rfl, hR2, hb2⟩
      rw [HST.out] at hR2
      have HR2 := Lib.hid hR2
      have HB2 := Lib.hid (HB1.out.trans (hb2.mono HB1.out.size))
      rw [HST.out]
      clear hR2 hb2
      go_wp2_with fail
      go_roundg (L - (i + 1))
      case measure => omega
      case rel => exact ⟨i + 1, by go_num, by omega, Nat.le_refl _, HB2.out, A2, _, c2, rfl, Lib.hid ⟨rfl, HR2.out⟩⟩
    · have hlt : decide ((i : Int) < (L : Int)) = false := by simpa using hi
      have e : ops.take i = ops := List.take_of_length_le (by have := HL.out; omega)
      have h1 := HS.out.1
      have h2 := HS.out.2
      rw [e] at h1 h2
      have HF := Lib.hid h2
      clear h2
      subst h1
      go_wp2_with fail
      go_ret
      exact ⟨A1, c1, rfl, Rd.own HF.out, hb, (own_cap HF.out).1⟩

theorem sRows_any {w : World} {A : Option Addr} {c : Nat} {ops : List Opr} (h : Rd w 3 A ops.length (flat opc ops)) (hl : ops.length ≤ 1000) :
    Calls Try.prog 30 #[.slice A ops.length c] w (Gives rwc 2 w (rows ops)) := (sRows_cap h hl).mono fun _ _ h => h.gives

end Go.Proofs.Ytaidaohkbbdimaa
