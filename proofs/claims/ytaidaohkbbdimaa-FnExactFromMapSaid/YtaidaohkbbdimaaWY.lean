/-
  The walks, part Y: NewFromMap over a map; FromMap of the thin package.
-/
import Derived.Test.YtaidaohkbbdimaaWX
namespace Go.Proofs.Ytaidaohkbbdimaa
open Go.RowKit

theorem puts_no (l : List Rw) : ∀ o ∈ l.map putOp, o.kind ≠ 2 := fun o ho => by
  obtain ⟨x, _, rfl⟩ := List.mem_map.1 ho
  simp [putOp]
theorem Mk.re {w w' : World} {a b : List Opr} {t : Nat} {n : An} (h : Mk w a w' t n) (e : rows a = rows b) (hc : ∀ o ∈ a, o.kind ≠ 2) : Mk w b w' t n :=
  ⟨h.tr, h.ents.trans e, fun _ => h.cmp hc, h.bel, h.tnew, h.new⟩
theorem Mk.mut {w w' w2 : World} {a : List Opr} {t : Nat} {n : An} {F : List Nat} (h : Mk w a w' t n) (m : Mut w' w2 F) (hF : ∀ b ∈ F, w.heap.size ≤ b ∧ b ≠ t ∧ b ∉ n.foot) : Mk w a w2 t n :=
  ⟨h.tr.keep m (fun hi => (hF _ hi).2.1 rfl) (fun _ hb hi => (hF _ hi).2.2 hb), h.ents, h.cmp, h.bel.trans (m.below (fun b hb => (hF b hb).1) h.bel.size), h.tnew, h.new⟩
/-- Every block of a tree holds cells. -/
theorem Tr.cells {w : World} {t : Nat} {n : An} (h : Tr w t n) : ∀ q ∈ t :: n.foot, ∃ ty cs, Bk w q ty cs := fun q hq => by
  rcases List.mem_cons.1 hq with rfl | hq
  · exact ⟨_, _, h.blk⟩
  · obtain ⟨ty, cs, hk, _⟩ := An.kind h.ok q hq
    exact ⟨ty, cs, hk⟩
theorem Rg.off {R : El} {w : World} {b r cnt t : Nat} {l p : List Rw} {n : An} (h : Rg R w b r l p cnt) (hT : Tr w t n) : b ∉ t :: n.foot ∧ r ∉ t :: n.foot :=
  ⟨fun hi => by obtain ⟨ty, cs, hk⟩ := hT.cells _ hi; exact h.mp.ne_ hk rfl, fun hi => by obtain ⟨ty, cs, hk⟩ := hT.cells _ hi; exact h.ne_ hk rfl⟩

set_option maxHeartbeats 2000000 in
set_option maxRecDepth 100000 in
theorem newFromMap_any {w : World} {b : Nat} {l : List Rw} (h : Mp anyE w b l) (hk : ∀ x ∈ l, x.1.length ≤ 1000) (hl : l.length ≤ 1000) :
    Calls Try.prog 40 #[.map (some b)] w (Made w (l.map putOp)) := by
  obtain ⟨W, hW⟩ : ∃ W, W = newNode w := ⟨_, rfl⟩
  have hs : W.heap.size = w.heap.size + 2 := by rw [hW]; unfold newNode; simp
  have hbW : Below w.heap.size w W := by rw [hW]; exact ((Below.refl _ w).alloc (Nat.le_refl _) _).alloc (by simp) _
  have HM := Lib.hid (h.bel hbW)
  have HS := Lib.hid hs
  have HKL := Lib.hid hk
  have HO : Hid (rows (l.map putOp) = l) := Lib.hid (rows_own h.srt)
  clear h hs hbW hk
  go_enter Try.func40, Try.ntmps40
  go_upto_region 2 with fail
  rw [show (w.alloc (.cells #[.pointer none, .string ⟨#[]⟩, .slice none 0 0] 85)).alloc (.cells #[.pointer (some ⟨w.heap.size, 0, none⟩), .int .i64 0] 87) = W from hW.symm]
  have HW := Lib.hid hW
  clear hW
  go_wp2_with (at_range; refine wpList_mp_range (R := anyE) rfl _ 57 20 rfl Try.underlying57 rfl HM.out ?_; intro w0 hrg hbl hsz)
  go_frame
  obtain ⟨t, n, he, hm⟩ := Mk.start (newNode_ok w w0 (by rw [← HW.out, ← HS.out]; exact hbl))
  injection he with he
  injection he with he
  injection he with he
  injection he with he
  subst he
  have HR0 := Lib.hid hrg
  have HM0 : Hid (Mk w (([] : List Rw).map putOp) w0 (w.heap.size + 1) n) := Lib.hid hm
  clear hrg hbl hsz hm
  go_loopg [12] l.length (fun g v12 wr => ∃ (p : List Rw) (cnt : Nat) (n : An), cnt ≤ g ∧ Hid (Rg anyE wr b W.heap.size l p cnt ∧ Mk w (p.map putOp) wr (w.heap.size + 1) n))
  case atStart => exact ⟨[], _, n, Nat.le_refl _, Lib.hid ⟨HR0.out, HM0.out⟩⟩
  case round =>
    obtain ⟨p, cnt, n, hg, HH⟩ := hrel
    go_wp2_with (at_next; refine wpList_mp_next (fun c => .iface 3 (.int .i64 c)) (fun v y hv => anyE_inv hv) rfl _ rfl rfl HH.out.1 ?_ ?_)
    · intro hpl
      subst hpl
      go_wp2_with fail
      go_ret
      exact ⟨_, n, rfl, HH.out.2⟩
    · intro x c w1 cnt1 hlx hpx hrg1 hlt hmu hen
      have hmk1 := HH.out.2.mut hmu (fun q hq => by
        have e : q = W.heap.size := by simpa using hq
        subst e
        refine ⟨by rw [HS.out]; omega, by rw [HS.out]; omega, fun hi => (HH.out.1.off HH.out.2.tr).2 (by simp [hi])⟩)
      have hxl : (x, c) ∈ l := (look_mem hrg1.mp.srt).1 hlx
      have hkx := HKL.out _ hxl
      have hlen := hrg1.len
      have hps : rows (p.map putOp) = p := rows_own HH.out.1.srt
      have hpl2 := HH.out.1.len
      have hins := insert_any (ba x) c hmk1.tr (by rw [ba_size]; exact hkx) (by rw [hmk1.ents, hps]; omega)
      rw [ba_list] at hins
      have HIN := Lib.hid hins
      have HMK1 := Lib.hid hmk1
      have HR1 := Lib.hid hrg1
      have HPS := Lib.hid hps
      clear hins hmk1 hrg1 hps hlx hpx hmu hxl hkx
      go_wp2_with fail
      refine HIN.out.mono ?_
      rintro e w2 ⟨rfl, hI⟩
      have hoff := HR1.out.off HMK1.out.tr
      obtain ⟨n2, hmk2⟩ := HMK1.out.step (did_ins (o := putOp (x, c)) HMK1.out.tr.wf hI (by simp [putOp]) (by simp [putOp]))
      obtain ⟨_, _, _, hmu2, _⟩ := hI
      have HR2 := Lib.hid (HR1.out.mut hmu2 hoff.1 hoff.2)
      have hrr : rows (p.map putOp ++ [putOp (x, c)]) = rows ((put p x c).map putOp) := by
        rw [rows_snoc, step_put, HPS.out, rows_own HR2.out.srt]
      have HMK2 := Lib.hid (hmk2.re hrr (fun o ho => by
        rcases List.mem_append.1 ho with h1 | h1
        · exact puts_no p o h1
        · have e : o = putOp (x, c) := by simpa using h1
          subst e; simp [putOp]))
      clear hmk2 hmu2 hoff hrr HIN
      go_wp2_with fail
      go_roundg cnt1
      case measure => omega
      case rel => exact ⟨_, cnt1, n2, Nat.le_refl _, Lib.hid ⟨HR2.out, HMK2.out⟩⟩

/-- The rows by Walk, and their number. -/
def FromM (w : World) (l : List Rw) (e : Ending) (w' : World) : Prop := ∃ A c, e = .returned (.tuple #[.slice A l.length c, .int .i64 l.length]) ∧ Rd w' 2 A l.length (flat rwc l) ∧ Below w.heap.size w w'

theorem Wk.tree2 {w0 w : World} {bo t : Nat} {acc : List Rw} {n : An} (h : Wk w0 bo w acc) (hT : Tr w0 t n) (hk : Bk w0 bo 24 #[.slice none 0 0]) : Tr w t n := by
  obtain ⟨v, h1, _, _⟩ := h
  refine hT.keep h1 (fun hi => ?_) fun b hb hi => ?_
  · have e : t = bo := by simpa using hi
    exact hT.blk.ne_ hk (by decide) e
  · have e : b = bo := by simpa using hi
    subst e
    obtain ⟨ty, cs, hk2, ht⟩ := An.kind hT.ok b hb
    rcases ht with rfl | rfl | rfl
    · exact hk2.ne_ hk (by decide) rfl
    · exact hk2.ne_ hk (by decide) rfl
    · exact hk2.ne_ hk (by decide) rfl

set_option maxHeartbeats 2000000 in
set_option maxRecDepth 100000 in
theorem iFromMap_any {w : World} {b : Nat} {l : List Rw} (h : Mp intE w b l) (hk : ∀ x ∈ l, x.1.length ≤ 1000) (hl : l.length ≤ 1000) :
    Calls Try.prog 16 #[.map (some b)] w (FromM w l) := by
  have hb0 : Below w.heap.size w (w.alloc (.map #[] 0)) := (Below.refl _ w).alloc (Nat.le_refl _) _
  have HM := Lib.hid (h.bel hb0)
  have HB0 := Lib.hid hb0
  have HS : Hid ((w.alloc (.map #[] 0)).heap.size = w.heap.size + 1) := Lib.hid (by simp)
  have HKL := Lib.hid hk
  have HO : Hid (rows (l.map putOp) = l) := Lib.hid (rows_own h.srt)
  have HBL := Lib.hid h.lt
  have hmm := @run_makeMap Try.prog
  clear h hk hb0
  go_enter Try.func16, Try.ntmps16
  go_wp2_with (at_range; refine wpList_mp_range (R := intE) rfl _ 22 3 rfl Try.underlying22 rfl HM.out ?_; intro w0 hrg hbl hsz)
  go_frame
  clear hmm
  rw [HS.out] at hrg
  rw [HS.out]
  have HR0 := Lib.hid hrg
  have HBB : Hid (Below w.heap.size w w0) := Lib.hid (HB0.out.trans (hbl.mono HB0.out.size))
  have HA0 : Hid (Mp anyE w0 w.heap.size []) := Lib.hid ((Mp.made w anyE).bel hbl)
  clear hrg hbl hsz
  go_loopg [12] l.length (fun g v12 wr => ∃ (p : List Rw) (cnt : Nat), cnt ≤ g ∧ Hid (Rg intE wr b (w.heap.size + 1) l p cnt ∧ Mp anyE wr w.heap.size p ∧ Below w.heap.size w wr))
  case atStart => exact ⟨[], _, Nat.le_refl _, Lib.hid ⟨HR0.out, HA0.out, HBB.out⟩⟩
  case round =>
    obtain ⟨p, cnt, hg, HH⟩ := hrel
    go_wp2_with (at_next; refine wpList_mp_next (fun c => .int .i64 c) (fun v y hv => intE_inv hv) rfl _ rfl rfl HH.out.1 ?_ ?_)
    · intro hpl
      subst hpl
      have HN := Lib.hid (newFromMap_any HH.out.2.1 HKL.out hl)
      go_wp2_with fail
      refine HN.out.mono ?_
      rintro e w2 ⟨t, n, rfl, hM⟩
      have HMK := Lib.hid hM
      clear hM HN
      go_wp2_with fail
      refine (walker_any _ w2.heap.size 0).mono ?_
      rintro e w3 ⟨rfl, hw⟩
      have hb2 : Below w2.heap.size w2 (w2.alloc (.cells #[.slice none 0 0] 24)) := (Below.refl _ w2).alloc (Nat.le_refl _) _
      have hb3 : Below w2.heap.size w2 w3 := by rw [hw]; exact hb2.trans ((boxed_below _ w2.heap.size 0).mono hb2.size)
      have hC := boxed_cap (w := w2.alloc (.cells #[.slice none 0 0] 24)) 0 (Bk.new w2 24 #[.slice none 0 0])
      rw [← hw, World.size_alloc] at hC
      have HC := Lib.hid hC
      have HT3 := Lib.hid (HMK.out.tr.bel hb3)
      have hbw := HH.out.2.2.trans (HMK.out.bel.mono HH.out.2.2.size)
      have HB3 : Hid (Below w.heap.size w w3) := Lib.hid (hbw.trans (hb3.mono hbw.size))
      have HBO : Hid (w.heap.size ≤ w2.heap.size) := Lib.hid hbw.size
      have HEN : Hid (n.er.ents = p) := Lib.hid (by rw [HMK.out.ents, HO.out])
      have hWk := walk_any (walk_visitor HC.out) (Wk.start HC.out) (fun w acc h => h.tree2 HT3.out HC.out.out) (by rw [HEN.out]; simp; omega)
      rw [vis_first, HEN.out, first_all] at hWk
      have HWK := Lib.hid hWk
      clear hw hb2 hb3 hC hbw hWk
      go_wp2_with fail
      refine HWK.out.mono ?_
      rintro e w4 ⟨rfl, hk⟩
      have HT4 := Lib.hid (hk.tree2 HT3.out HC.out.out)
      obtain ⟨A', c', k1, hg4⟩ := hk.ends HB3.out HBO.out
      obtain ⟨A5, c5, he5, hr5, hb5⟩ := hg4
      have HG := Lib.hid (And.intro hr5 hb5)
      injection he5 with he5
      injection he5 with e1 e2 e3
      subst e1
      clear hk hr5 hb5 e2 e3 HWK
      go_wp2_with fail
      go_quiet ((go_at_call 43; refine Calls.quiet_of_same (treeLen_any (HT4.out.bel (below_drewN (Below.refl _ w4) _)))))
      rw [HEN.out]
      go_wp2_with fail
      go_ret2
      exact ⟨_, c', rfl, HG.out.1.bel (below_drewN (Below.refl _ w4) _), below_drewN HG.out.2 _⟩
    · intro x c w1 cnt1 hlx hpx hrg1 hlt hmu hen
      have hoff : ∀ q ∈ [w.heap.size + 1], w.heap.size ≤ q := fun q hq => by
        have e : q = w.heap.size + 1 := by simpa using hq
        omega
      have HB1 : Hid (Below w.heap.size w w1) := Lib.hid (bel_mut HH.out.2.2 hmu hoff HH.out.2.2.size)
      have HA1 : Hid (Mp anyE w1 w.heap.size p) := Lib.hid (HH.out.2.1.mut hmu (by simp))
      have hlen := HH.out.1.len
      have HLP : Hid (p.length ≤ 1000000) := Lib.hid (by omega)
      have HKX : Hid (x.length ≤ 1000000) := Lib.hid (Nat.le_trans (HKL.out _ ((look_mem hrg1.mp.srt).1 hlx)) (by omega))
      have HR1 := Lib.hid hrg1
      clear hlx hpx hrg1 hmu hoff
      go_wp2_with (at_mapUpdate; refine wpList_mp_put (R := anyE) rfl _ _ _ 57 20 rfl Try.underlying57 rfl HA1.out HLP.out rfl HKX.out rfl (anyE_mk _) ?_; intro w2 hmp hmu2; go_frame)
      have HR2 := Lib.hid (HR1.out.mut hmu2 (by have := HBL.out; simp; omega) (by simp))
      have HB2 : Hid (Below w.heap.size w w2) := Lib.hid (bel_mut HB1.out hmu2 (by simp) HB1.out.size)
      have HA2 := Lib.hid hmp
      clear hmp hmu2
      go_wp2_with fail
      go_roundg cnt1
      case measure => omega
      case rel => exact ⟨_, cnt1, Nat.le_refl _, Lib.hid ⟨HR2.out, HA2.out, HB2.out⟩⟩

end Go.Proofs.Ytaidaohkbbdimaa
