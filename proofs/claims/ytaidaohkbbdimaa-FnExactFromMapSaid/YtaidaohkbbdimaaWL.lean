/-
  The walks, part L: put.
  The walks, part L2: Len, Get, Longest, Min, Max of the thin package.
-/
import Derived.Test.YtaidaohkbbdimaaWK
import Derived.Test.YtaidaohkbbdimaaWD
namespace Go.Proofs.Ytaidaohkbbdimaa
open Go.RowKit

/-- What operations have made: a tree of new blocks alone. -/
structure Mk (w : World) (ops : List Opr) (w' : World) (t : Nat) (n : An) : Prop where
  tr : Tr w' t n
  ents : n.er.ents = rows ops
  cmp : (∀ o ∈ ops, o.kind ≠ 2) → n.er.kids.cmp
  bel : Below w.heap.size w w'
  tnew : w.heap.size ≤ t
  new : ∀ b ∈ n.foot, w.heap.size ≤ b

theorem Mk.start {w w' : World} {e : Ending} (h : Newt w e w') : ∃ t n, e = .returned (.pointer (some ⟨t, 0, none⟩)) ∧ Mk w [] w' t n := by
  obtain ⟨t, n, he, h1, h2, h3, h4, h5⟩ := h
  exact ⟨t, n, he, h1, by rw [h2]; rfl, fun _ => by rw [h2]; exact trivial, h3, h4, h5⟩
theorem Mk.below {w w' w2 : World} {ops : List Opr} {t : Nat} {n : An} (h : Mk w ops w' t n) (hb : Below w'.heap.size w' w2) : Mk w ops w2 t n :=
  ⟨h.tr.bel hb, h.ents, h.cmp, h.bel.trans (hb.mono h.bel.size), h.tnew, h.new⟩
theorem Mk.step {w w' w2 : World} {ops : List Opr} {t : Nat} {n : An} {o : Opr} (h : Mk w ops w' t n) (hd : Did w' t n o w2) : ∃ n', Mk w (ops ++ [o]) w2 t n' := by
  obtain ⟨n', h1, h2, h3, h4, h5⟩ := hd
  refine ⟨n', h1, ?_, fun hk => h3 (hk o (by simp)) (h.cmp fun x hx => hk x (by simp [hx])), ?_, h.tnew, fun b hb => ?_⟩
  · rw [h2, h.ents, rows_app]; rfl
  · have hs := h.bel.size
    refine h.bel.trans (h4.below (fun b hb => ?_) hs)
    rcases List.mem_cons.1 hb with rfl | hb
    · exact h.tnew
    · exact h.new b hb
  · have hs := h.bel.size
    rcases h5 b hb with h6 | h6
    · exact h.new b h6
    · omega
theorem Mk.len {w w' : World} {ops : List Opr} {t : Nat} {n : An} (h : Mk w ops w' t n) : n.er.ents.length ≤ ops.length := by
  rw [h.ents]; exact len_rows ops

/-- Operations that the package takes. -/
structure Oks (ops : List Opr) : Prop where
  len : ops.length ≤ 1000
  key : ∀ o ∈ ops, o.key.length ≤ 1000

/-- What put answers and leaves. -/
def Made (w : World) (ops : List Opr) (e : Ending) (w' : World) : Prop := ∃ t n, e = .returned (.pointer (some ⟨t, 0, none⟩)) ∧ Mk w ops w' t n

theorem take_more2 {α : Type} {l : List α} {i : Nat} (hi : i < l.length) : l.take (i + 1) = l.take i ++ [l[i]] := by
  rw [List.take_succ_eq_append_getElem hi]

set_option maxHeartbeats 2000000 in
set_option maxRecDepth 100000 in
theorem put_any {w : World} {A : Option Addr} {c : Nat} {ops : List Opr} (h : Rd w 3 A ops.length (flat opc ops)) (hO : Oks ops) :
    Calls Try.prog 47 #[.slice A ops.length c] w (Made w ops) := by
  have HR := Lib.hid h
  have hlen := hO.len
  have HO := Lib.hid hO
  clear h hO
  obtain ⟨L, hL⟩ : ∃ L, L = ops.length := ⟨_, rfl⟩
  rw [← hL] at hlen HR
  rw [← hL]
  have HL := Lib.hid hL
  clear hL
  go_enter Try.func47, Try.ntmps47
  go_wp2_with fail
  refine (new_any w).mono ?_
  rintro e w0 hn
  obtain ⟨t, n, rfl, hm⟩ := Mk.start hn
  have HM := Lib.hid hm
  clear hn hm
  go_wp2_with fail
  go_loopg [9] L (fun g v9 wr => ∃ (i : Nat) (n : An), v9 = .int .i64 i ∧ i ≤ L ∧ L - i ≤ g ∧ Hid (Mk w (ops.take i) wr t n))
  case atStart => exact ⟨0, n, rfl, Nat.zero_le _, by omega, HM⟩
  case round =>
    obtain ⟨i, n, rfl, hiL, hg, HM⟩ := hrel
    by_cases hi : i < L
    · have hi2 : i < ops.length := by have := HL.out; omega
      have hlt : decide ((i : Int) < (L : Int)) = true := by simpa using hi
      have hR2 := HR.out.bel HM.out.bel
      rw [HL.out] at hR2
      obtain ⟨ad, hA, hadl, c0, c1, c2⟩ := hR2.op hi2
      subst hA
      clear hR2
      have HB1 : Hid (Below wr.heap.size wr (wr.alloc (.cells #[.int .i64 ops[i].kind, .string (ba ops[i].key), .int .i64 ops[i].val] 37))) := Lib.hid ((Below.refl _ wr).alloc (Nat.le_refl _) _)
      have HM2 := Lib.hid (HM.out.below HB1.out)
      have hD := do_any ops[i] HM2.out.tr (HO.out.key _ (List.getElem_mem hi2)) (by have := HM2.out.len; have := List.length_take_le i ops; have := HO.out.len; omega)
      have HI2 := Lib.hid hi2
      have HD := Lib.hid hD
      clear hD
      go_wp2_with fail
      refine HD.out.mono ?_
      rintro e w2 hP
      obtain ⟨rfl, hDid⟩ := hP
      obtain ⟨n2, hM3⟩ := HM2.out.step hDid
      rw [← take_more2 HI2.out] at hM3
      have HM3 := Lib.hid hM3
      have hw1 : IntKind.i64.wrap ((i : Int) + 1) = (i : Int) + 1 := IntWalk.i64_in _ (by omega)
      clear hDid hM3
      go_wp2_with fail
      go_roundg (L - (i + 1))
      case measure => omega
      case rel => exact ⟨i + 1, n2, by go_num, by omega, Nat.le_refl _, HM3⟩
    · have hlt : decide ((i : Int) < (L : Int)) = false := by simpa using hi
      have HF : Hid (Mk w ops wr t n) := Lib.hid (by have h := HM.out; rw [List.take_of_length_le (by have := HL.out; omega)] at h; exact h)
      go_wp2_with fail
      go_ret
      exact ⟨t, n, rfl, HF.out⟩

end Go.Proofs.Ytaidaohkbbdimaa

namespace Go.Proofs.Ytaidaohkbbdimaa
open Go.RowKit

/-- A value is answered, and nothing that was has turned. -/
def Ans (w : World) (v : Value) (e : Ending) (w' : World) : Prop := e = .returned v ∧ Below w.heap.size w w'

def rwv (x : Rw) : Value := .agg #[.string (ba x.1), .int .i64 x.2]
def orow (o : Option Rw) : Rw := o.getD ([], 0)
theorem rv_eq (o : Option Rw) : rv o = .tuple #[.string (ba (orow o).1), iv (o.map (·.2)), .bool o.isSome] := by cases o <;> rfl
theorem orow_val (o : Option Rw) : (o.map (·.2)).getD 0 = (orow o).2 := by cases o <;> rfl

set_option maxHeartbeats 1000000 in
set_option maxRecDepth 100000 in
theorem iLen_any {w : World} {A : Option Addr} {c : Nat} {ops : List Opr} (h : Rd w 3 A ops.length (flat opc ops)) (hO : Oks ops) :
    Calls Try.prog 28 #[.slice A ops.length c] w (Ans w (.int .i64 (rows ops).length)) := by
  have hp := put_any (c := c) h hO
  clear h hO
  go_enter Try.func28, Try.ntmps28
  go_wp2_with fail
  refine hp.mono ?_
  clear hp
  rintro e w1 ⟨t, n, rfl, hM⟩
  have HM := Lib.hid hM
  have HL := Lib.hid (treeLen_any hM.tr)
  clear hM
  go_wp2_with fail
  refine HL.out.mono ?_
  rintro e w2 ⟨rfl, hw⟩
  subst w2
  go_wp2_with fail
  go_ret
  exact ⟨by rw [← HM.out.ents]; rfl, HM.out.bel⟩

set_option maxHeartbeats 1000000 in
set_option maxRecDepth 100000 in
theorem iGet_any {w : World} {A : Option Addr} {c : Nat} {ops : List Opr} (s : Bs) (h : Rd w 3 A ops.length (flat opc ops)) (hO : Oks ops) :
    Calls Try.prog 31 #[.slice A ops.length c, .string (ba s)] w (Ans w (.tuple #[.int .i64 ((look (rows ops) s).getD 0), .bool (look (rows ops) s).isSome])) := by
  have hp := put_any (c := c) h hO
  clear h hO
  go_enter Try.func31, Try.ntmps31
  go_wp2_with fail
  refine hp.mono ?_
  clear hp
  rintro e w1 ⟨t, n, rfl, hM⟩
  have HM := Lib.hid hM
  have hg := get_any (ba s) hM.tr
  rw [ba_list, Nd.get_ok hM.tr.wf, hM.ents] at hg
  have HG := Lib.hid hg
  clear hM hg
  go_wp2_with fail
  refine HG.out.mono ?_
  rintro e w2 ⟨rfl, hb⟩
  have HB := Lib.hid hb
  have HN := Lib.hid (number_any w2 (look (rows ops) s))
  clear hb
  go_wp2_with fail
  refine HN.out.mono ?_
  rintro e w3 ⟨rfl, hw⟩
  subst hw
  go_wp2_with fail
  go_ret2
  exact ⟨rfl, HM.out.bel.trans (HB.out.mono HM.out.bel.size)⟩

theorem abv_rows {w w1 : World} {ops : List Opr} {t : Nat} {n : An} (hM : Mk w ops w1 t n) (s : Bs) : n.er.abv s = abv (rows ops) s := by rw [Nd.abv_ok hM.tr.wf, hM.ents]

set_option maxHeartbeats 1000000 in
set_option maxRecDepth 100000 in
theorem iLongest_any {w : World} {A : Option Addr} {c : Nat} {ops : List Opr} (s : Bs) (h : Rd w 3 A ops.length (flat opc ops)) (hO : Oks ops) :
    Calls Try.prog 23 #[.slice A ops.length c, .string (ba s)] w (Ans w (.tuple #[rwv (orow (abv (rows ops) s).getLast?), .bool (abv (rows ops) s).getLast?.isSome])) := by
  have hb1 : Below w.heap.size w (w.alloc (.cells #[.string ⟨#[]⟩, .int .i64 0] 28)) := (Below.refl _ w).alloc (Nat.le_refl _) _
  have hp := put_any (c := c) (h.bel hb1) hO
  have HB1 := Lib.hid hb1
  have HK := Lib.hid (Bk.new w 28 #[.string ⟨#[]⟩, .int .i64 0])
  clear h hO hb1
  go_enter Try.func23, Try.ntmps23
  go_wp2_with fail
  refine hp.mono ?_
  clear hp
  rintro e w1 ⟨t, n, rfl, hM⟩
  have HM := Lib.hid hM
  have hg := longest_any (ba s) hM.tr
  rw [ba_list, abv_rows hM, rv_eq] at hg
  have HG := Lib.hid hg
  clear hM hg
  go_wp2_with fail
  refine HG.out.mono ?_
  rintro e w2 ⟨rfl, hb⟩
  have HB := Lib.hid hb
  generalize ho : (abv (rows ops) s).getLast? = o at *
  have HO := Lib.hid ho
  have HN := Lib.hid (number_any w2 (o.map (·.2)))
  have hk2 : Bk w2 w.heap.size 28 #[.string ⟨#[]⟩, .int .i64 0] := HK.out.of ((hb.block _ (Nat.lt_of_lt_of_le HK.out.lt HM.out.bel.size)).trans (HM.out.bel.block _ HK.out.lt))
  have r0 : w2.cell? ⟨w.heap.size, 0, none⟩ = some (.string ⟨#[]⟩) := by rw [hk2.cell]; rfl
  have r1 : w2.cell? ⟨w.heap.size, 1, none⟩ = some (.int .i64 0) := by rw [hk2.cell]; rfl
  have f0 : w2.frozen? ⟨w.heap.size, 0, none⟩ = false := hk2.frozen 0
  have f1 : w2.frozen? ⟨w.heap.size, 1, none⟩ = false := hk2.frozen 1
  have HK2 := Lib.hid hk2
  clear hb ho hk2
  go_wp2_with fail
  refine HN.out.mono ?_
  rintro e w3 ⟨rfl, hw⟩
  subst hw
  rw [orow_val]
  go_wp2_with fail
  have hc := (HK2.out.set_ 0 (.string (ba (orow o).1))).set_ 1 (.int .i64 (orow o).2)
  have e0 := hc.cell 0
  have e1 := hc.cell 1
  clear r0 r1 f0 f1
  refine bodyPost_ret (v := .tuple #[.agg #[.string (ba (orow o).1), .int .i64 (orow o).2], .bool o.isSome]) (by simp [results, Try.results23, go_sem, e0, e1]) rfl ⟨by first | rfl | (rw [HO.out]; rfl), ?_⟩
  have hall := HB1.out.trans ((HM.out.bel.trans (HB.out.mono HM.out.bel.size)).mono HB1.out.size)
  exact (hall.setCell (p := ⟨w.heap.size, 0, none⟩) (Nat.le_refl _) _).setCell (p := ⟨w.heap.size, 1, none⟩) (Nat.le_refl _) _

theorem mk_min {w w1 : World} {ops : List Opr} {t : Nat} {n : An} (hM : Mk w ops w1 t n) (h : (∀ o ∈ ops, o.kind ≠ 2) ∨ rows ops = []) : n.er.min = (rows ops).head? := by
  rw [← hM.ents]
  rcases h with h | h
  · exact Nd.min_ok (hM.cmp h)
  · rw [← hM.ents] at h
    rw [Nd.min_none h, h]; rfl
theorem mk_max {w w1 : World} {ops : List Opr} {t : Nat} {n : An} (hM : Mk w ops w1 t n) (h : (∀ o ∈ ops, o.kind ≠ 2) ∨ rows ops = []) : n.er.max = (rows ops).getLast? := by
  rw [← hM.ents]
  rcases h with h | h
  · exact Nd.max_ok (hM.cmp h)
  · rw [← hM.ents] at h
    rw [Nd.max_none h, h]; rfl

set_option maxHeartbeats 1000000 in
set_option maxRecDepth 100000 in
theorem iMin_any {w : World} {A : Option Addr} {c : Nat} {ops : List Opr} (h : Rd w 3 A ops.length (flat opc ops)) (hO : Oks ops) (hcut : (∀ o ∈ ops, o.kind ≠ 2) ∨ rows ops = []) :
    Calls Try.prog 34 #[.slice A ops.length c] w (Ans w (.tuple #[rwv (orow (rows ops).head?), .bool (rows ops).head?.isSome])) := by
  have hb1 : Below w.heap.size w (w.alloc (.cells #[.string ⟨#[]⟩, .int .i64 0] 28)) := (Below.refl _ w).alloc (Nat.le_refl _) _
  have hp := put_any (c := c) (h.bel hb1) hO
  have HB1 := Lib.hid hb1
  have HK := Lib.hid (Bk.new w 28 #[.string ⟨#[]⟩, .int .i64 0])
  clear h hO hb1
  have HCC := Lib.hid hcut
  clear hcut
  go_enter Try.func34, Try.ntmps34
  go_wp2_with fail
  refine hp.mono ?_
  clear hp
  rintro e w1 ⟨t, n, rfl, hM⟩
  have HM := Lib.hid hM
  have hg := min_any hM.tr
  rw [mk_min hM HCC.out, rv_eq] at hg
  have HG := Lib.hid hg
  clear hM hg
  go_wp2_with fail
  refine HG.out.mono ?_
  rintro e w2 ⟨rfl, hb⟩
  have HB := Lib.hid hb
  generalize ho : (rows ops).head? = o at *
  have HO := Lib.hid ho
  have HN := Lib.hid (number_any w2 (o.map (·.2)))
  have hk2 : Bk w2 w.heap.size 28 #[.string ⟨#[]⟩, .int .i64 0] := HK.out.of ((hb.block _ (Nat.lt_of_lt_of_le HK.out.lt HM.out.bel.size)).trans (HM.out.bel.block _ HK.out.lt))
  have r0 : w2.cell? ⟨w.heap.size, 0, none⟩ = some (.string ⟨#[]⟩) := by rw [hk2.cell]; rfl
  have r1 : w2.cell? ⟨w.heap.size, 1, none⟩ = some (.int .i64 0) := by rw [hk2.cell]; rfl
  have f0 : w2.frozen? ⟨w.heap.size, 0, none⟩ = false := hk2.frozen 0
  have f1 : w2.frozen? ⟨w.heap.size, 1, none⟩ = false := hk2.frozen 1
  have HK2 := Lib.hid hk2
  clear hb ho hk2
  go_wp2_with fail
  refine HN.out.mono ?_
  rintro e w3 ⟨rfl, hw⟩
  subst hw
  rw [orow_val]
  go_wp2_with fail
  have hc := (HK2.out.set_ 0 (.string (ba (orow o).1))).set_ 1 (.int .i64 (orow o).2)
  have e0 := hc.cell 0
  have e1 := hc.cell 1
  clear r0 r1 f0 f1
  refine bodyPost_ret (v := .tuple #[.agg #[.string (ba (orow o).1), .int .i64 (orow o).2], .bool o.isSome]) (by simp [results, Try.results34, go_sem, e0, e1]) rfl ⟨by first | rfl | (rw [HO.out]; rfl), ?_⟩
  have hall := HB1.out.trans ((HM.out.bel.trans (HB.out.mono HM.out.bel.size)).mono HB1.out.size)
  exact (hall.setCell (p := ⟨w.heap.size, 0, none⟩) (Nat.le_refl _) _).setCell (p := ⟨w.heap.size, 1, none⟩) (Nat.le_refl _) _

set_option maxHeartbeats 1000000 in
set_option maxRecDepth 100000 in
theorem iMax_any {w : World} {A : Option Addr} {c : Nat} {ops : List Opr} (h : Rd w 3 A ops.length (flat opc ops)) (hO : Oks ops) (hcut : (∀ o ∈ ops, o.kind ≠ 2) ∨ rows ops = []) :
    Calls Try.prog 35 #[.slice A ops.length c] w (Ans w (.tuple #[rwv (orow (rows ops).getLast?), .bool (rows ops).getLast?.isSome])) := by
  have hb1 : Below w.heap.size w (w.alloc (.cells #[.string ⟨#[]⟩, .int .i64 0] 28)) := (Below.refl _ w).alloc (Nat.le_refl _) _
  have hp := put_any (c := c) (h.bel hb1) hO
  have HB1 := Lib.hid hb1
  have HK := Lib.hid (Bk.new w 28 #[.string ⟨#[]⟩, .int .i64 0])
  clear h hO hb1
  have HCC := Lib.hid hcut
  clear hcut
  go_enter Try.func35, Try.ntmps35
  go_wp2_with fail
  refine hp.mono ?_
  clear hp
  rintro e w1 ⟨t, n, rfl, hM⟩
  have HM := Lib.hid hM
  have hg := max_any hM.tr
  rw [mk_max hM HCC.out, rv_eq] at hg
  have HG := Lib.hid hg
  clear hM hg
  go_wp2_with fail
  refine HG.out.mono ?_
  rintro e w2 ⟨rfl, hb⟩
  have HB := Lib.hid hb
  generalize ho : (rows ops).getLast? = o at *
  have HO := Lib.hid ho
  have HN := Lib.hid (number_any w2 (o.map (·.2)))
  have hk2 : Bk w2 w.heap.size 28 #[.string ⟨#[]⟩, .int .i64 0] := HK.out.of ((hb.block _ (Nat.lt_of_lt_of_le HK.out.lt HM.out.bel.size)).trans (HM.out.bel.block _ HK.out.lt))
  have r0 : w2.cell? ⟨w.heap.size, 0, none⟩ = some (.string ⟨#[]⟩) := by rw [hk2.cell]; rfl
  have r1 : w2.cell? ⟨w.heap.size, 1, none⟩ = some (.int .i64 0) := by rw [hk2.cell]; rfl
  have f0 : w2.frozen? ⟨w.heap.size, 0, none⟩ = false := hk2.frozen 0
  have f1 : w2.frozen? ⟨w.heap.size, 1, none⟩ = false := hk2.frozen 1
  have HK2 := Lib.hid hk2
  clear hb ho hk2
  go_wp2_with fail
  refine HN.out.mono ?_
  rintro e w3 ⟨rfl, hw⟩
  subst hw
  rw [orow_val]
  go_wp2_with fail
  have hc := (HK2.out.set_ 0 (.string (ba (orow o).1))).set_ 1 (.int .i64 (orow o).2)
  have e0 := hc.cell 0
  have e1 := hc.cell 1
  clear r0 r1 f0 f1
  refine bodyPost_ret (v := .tuple #[.agg #[.string (ba (orow o).1), .int .i64 (orow o).2], .bool o.isSome]) (by simp [results, Try.results35, go_sem, e0, e1]) rfl ⟨by first | rfl | (rw [HO.out]; rfl), ?_⟩
  have hall := HB1.out.trans ((HM.out.bel.trans (HB.out.mono HM.out.bel.size)).mono HB1.out.size)
  exact (hall.setCell (p := ⟨w.heap.size, 0, none⟩) (Nat.le_refl _) _).setCell (p := ⟨w.heap.size, 1, none⟩) (Nat.le_refl _) _

end Go.Proofs.Ytaidaohkbbdimaa
