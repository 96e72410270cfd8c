/-
  The walks, part Z: ToMap of the tree and of the thin package.
-/
import Derived.Test.YtaidaohkbbdimabWX
import Derived.Test.YtaidaohkbbdimabWV
namespace Go.Proofs.Ytaidaohkbbdimab
open Go.RowKit

theorem run_makeMap_hint (n : Int) (w : World) : (Instr.makeMap 71 (some (.int .i64 n))).run Try.prog w = .ok (.map (some w.heap.size)) (w.alloc (.map #[] 0)) := by
  have hu : Try.prog.underlying 71 = some (.map 9 20) := Try.underlying71
  simp [Instr.makeMap, run_underlying hu, go_sem, Result.andThen]

/-- What the entries met so far have left: the map holds them, its variable leads to it. -/
def Wm (w0 : World) (bo bm : Nat) (w : World) (acc : List Rw) : Prop := Mut w0 w [bm] ∧ Mp anyE w bm (rows (acc.map putOp)) ∧ Bk w bo 71 #[.map (some bm)]

theorem Wm.bel {w0 w w' : World} {bo bm : Nat} {acc : List Rw} (h : Wm w0 bo bm w acc) (hb : Below w.heap.size w w') : Wm w0 bo bm w' acc :=
  ⟨h.1.trans (Mut.of_below hb) fun _ hb => Or.inl hb, h.2.1.bel hb, h.2.2.of (hb.block _ h.2.2.lt)⟩

set_option maxHeartbeats 1000000 in
set_option maxRecDepth 100000 in
theorem toMap1_any {w0 w : World} {bo bm : Nat} {acc : List Rw} (l : Lv) (hl : acc.length < 100000) (hk : l.key.size ≤ 1000000) (h : Wm w0 bo bm w acc) :
    Calls Try.prog 65 #[.string l.key, .iface 3 (.int .i64 l.val), .pointer (some ⟨bo, 0, none⟩)] w (Vis (Wm w0 bo bm) false (acc ++ [lrow l])) := by
  have k1 : w.cell? ⟨bo, 0, none⟩ = some (.map (some bm)) := by rw [h.2.2.cell]; rfl
  have H := Lib.hid h
  have HLN : Hid ((rows (acc.map putOp)).length ≤ 1000000) := Lib.hid (by have h1 := len_rows (acc.map putOp); rw [List.length_map] at h1; omega)
  have hkey : l.key = ba l.key.data.toList := (ba_bs _).symm
  have HKX : Hid (l.key.data.toList.length ≤ 1000000) := Lib.hid (by simpa using hk)
  have HFS : Hid (rows ((acc ++ [lrow l]).map putOp) = put (rows (acc.map putOp)) l.key.data.toList l.val) := Lib.hid (rows_put acc (lrow l))
  have HKY := Lib.hid hkey
  clear h hk hkey
  go_enter Try.func65, Try.ntmps65
  go_wp2_with (at_mapUpdate; refine wpList_mp_put (R := anyE) (k := l.key.data.toList) rfl _ _ _ 71 20 rfl Try.underlying71 rfl H.out.2.1 HLN.out (congrArg Value.string HKY.out) HKX.out rfl (anyE_mk _) ?_; intro w5 hmp hmu; go_frame)
  have HB : Hid (Bk w5 bo 71 #[.map (some bm)]) := Lib.hid (H.out.2.2.of (hmu.block _ H.out.2.2.lt (by
    intro hi
    have e : bo = bm := by simpa using hi
    exact H.out.2.1.ne_ H.out.2.2 e.symm)))
  rw [← HFS.out] at hmp
  have HF : Hid (Wm w0 bo bm w5 (acc ++ [lrow l])) := Lib.hid ⟨H.out.1.trans hmu fun _ hb => Or.inl hb, hmp, HB.out⟩
  clear hmp hmu
  go_wp2_with fail
  go_ret
  exact ⟨rfl, HF.out⟩

theorem toMap_visitor (w0 : World) (bo bm : Nat) : Visitor2 100000 65 #[.pointer (some ⟨bo, 0, none⟩)] (fun _ => false) (Wm w0 bo bm) :=
  ⟨enters Try.func65 (by kernel_rfl) rfl, fun _ _ _ h hb => h.bel hb, fun _ _ l hl hk h => toMap1_any l hl hk h⟩

set_option maxHeartbeats 1000000 in
set_option maxRecDepth 100000 in
theorem treeToMap_any {w : World} {t : Nat} {n : An} {l : List Rw} (h : Tr w t n) (he : n.er.ents = l) (hs : Srt l) (hl : l.length ≤ 100000) (hk : ∀ x ∈ l, x.1.length ≤ 1000000) :
    Calls Try.prog 49 #[.pointer (some ⟨t, 0, none⟩)] w (GivesM anyE w l) := by
  have c1 : w.cell? ⟨t, 1, none⟩ = some (.int .i64 n.er.ents.length) := by rw [h.blk.cell]; rfl
  have htl := h.blk.lt
  have hmh := run_makeMap_hint
  have HT := Lib.hid h
  have HE := Lib.hid he
  have HO : Hid (rows (l.map putOp) = l) := Lib.hid (rows_own hs)
  have HKL := Lib.hid hk
  obtain ⟨W, hW⟩ : ∃ W, W = (w.alloc (.map #[] 0)).alloc (.cells #[.map (some w.heap.size)] 71) := ⟨_, rfl⟩
  have hbW : Below w.heap.size w W := by rw [hW]; exact ((Below.refl _ w).alloc (Nat.le_refl _) _).alloc (by simp) _
  have hb1 : Below w.heap.size w (w.alloc (.map #[] 0)) := (Below.refl _ w).alloc (Nat.le_refl _) _
  have hb2 : Below (w.alloc (.map #[] 0)).heap.size (w.alloc (.map #[] 0)) W := by rw [hW]; exact (Below.refl _ _).alloc (Nat.le_refl _) _
  have hkW : Bk W (w.heap.size + 1) 71 #[.map (some w.heap.size)] := by
    have := Bk.new (w.alloc (.map #[] 0)) 71 #[.map (some w.heap.size)]
    rw [World.size_alloc] at this
    rw [hW]; exact this
  have HM0 : Hid (Wm W (w.heap.size + 1) w.heap.size W []) := Lib.hid ⟨Mut.refl _ _, (Mp.made w anyE).bel hb2, hkW⟩
  have HTW := Lib.hid (h.bel hbW)
  have HBW := Lib.hid hbW
  have HMP : Hid (Mp anyE W w.heap.size []) := Lib.hid ((Mp.made w anyE).bel hb2)
  have hWk := walk2_any (t := t) (toMap_visitor W (w.heap.size + 1) w.heap.size) HM0.out (fun w' acc hw => HTW.out.keep hw.1 (fun hi => by
      have e : t = w.heap.size := by simpa using hi
      exact HMP.out.ne_ HTW.out.blk e.symm) fun q hq hi => by
      have e : q = w.heap.size := by simpa using hi
      subst e
      obtain ⟨ty, cs, hk2, _⟩ := An.kind HTW.out.ok _ hq
      exact HMP.out.ne_ hk2 rfl) (by rw [HE.out]; simp; omega) (by rw [HE.out]; exact HKL.out)
  rw [vis_never, HE.out, List.nil_append] at hWk
  have HWK := Lib.hid hWk
  clear h he hs hk hbW hb1 hb2 hkW hWk
  go_enter Try.func49, Try.ntmps49
  go_upto_region 2 with fail
  rw [show (w.alloc (.map #[] 0)).alloc (.cells #[.map (some w.heap.size)] 71) = W from hW.symm]
  clear hW hmh
  go_wp2_with fail
  refine HWK.out.mono ?_
  rintro e w4 ⟨rfl, hw⟩
  have k4 : w4.cell? ⟨w.heap.size + 1, 0, none⟩ = some (.map (some w.heap.size)) := by rw [hw.2.2.cell]; rfl
  have HF : Hid (GivesM anyE w l (.returned (.map (some w.heap.size))) w4) := Lib.hid ⟨_, rfl, by
    have h1 := hw.2.1
    rw [HO.out] at h1
    exact h1, bel_mut HBW.out hw.1 (by simp) HBW.out.size, Nat.le_refl _⟩
  clear hw HWK
  go_wp2_with fail
  go_ret
  exact HF.out

set_option maxHeartbeats 2000000 in
set_option maxRecDepth 100000 in
theorem iToMap_any {w : World} {A : Option Addr} {c : Nat} {ops : List Opr} (h : Rd w 3 A ops.length (flat opc ops)) (hO : Oks ops) (hk : ∀ x ∈ rows ops, x.1.length ≤ 1000) :
    Calls Try.prog 30 #[.slice A ops.length c] w (GivesM intE w (rows ops)) := by
  have hb0 : Below w.heap.size w (w.alloc (.map #[] 0)) := (Below.refl _ w).alloc (Nat.le_refl _) _
  have HB0 := Lib.hid hb0
  have HS : Hid ((w.alloc (.map #[] 0)).heap.size = w.heap.size + 1) := Lib.hid (by simp)
  have hp := put_any (c := c) (h.bel hb0) hO
  have HKL := Lib.hid hk
  have hlr : (rows ops).length ≤ 1000 := Nat.le_trans (len_rows ops) hO.len
  have hsr := srt_rows ops
  obtain ⟨l, hll⟩ : ∃ l, l = rows ops := ⟨_, rfl⟩
  rw [← hll] at HKL hlr hsr
  rw [← hll]
  have HLL := Lib.hid hll
  have HSR := Lib.hid hsr
  have hmm := @run_makeMap Try.prog
  clear h hO hb0 hk hsr hll
  go_enter Try.func30, Try.ntmps30
  go_wp2_with fail
  clear hmm
  refine hp.mono ?_
  clear hp
  rintro e w1 ⟨t, n, rfl, hM⟩
  have HTM := Lib.hid (treeToMap_any hM.tr (by rw [hM.ents, ← HLL.out]) HSR.out (by omega) (fun x hx => Nat.le_trans (HKL.out x hx) (by omega)))
  have HB1 : Hid (Below w.heap.size w w1) := Lib.hid (HB0.out.trans (hM.bel.mono HB0.out.size))
  have HA1 : Hid (Mp intE w1 w.heap.size []) := Lib.hid ((Mp.made w intE).bel hM.bel)
  clear hM
  go_wp2_with fail
  refine HTM.out.mono ?_
  rintro e w2 ⟨b, rfl, hmp, hb2, hbl⟩
  have HB2 : Hid (Below w.heap.size w w2) := Lib.hid (HB1.out.trans (hb2.mono HB1.out.size))
  have HA2 : Hid (Mp intE w2 w.heap.size []) := Lib.hid (HA1.out.bel hb2)
  have HM2 := Lib.hid hmp
  have HBL : Hid (w.heap.size < b) := Lib.hid (Nat.lt_of_lt_of_le HA1.out.lt hbl)
  clear hmp hb2 hbl HTM
  go_wp2_with (at_range; refine wpList_mp_range (R := anyE) rfl _ 71 20 rfl Try.underlying71 rfl HM2.out ?_; intro w3 hrg hbl hsz)
  go_frame
  have HR3 := Lib.hid hrg
  have HB3 : Hid (Below w.heap.size w w3) := Lib.hid (HB2.out.trans (hbl.mono HB2.out.size))
  have HA3 : Hid (Mp intE w3 w.heap.size []) := Lib.hid (HA2.out.bel hbl)
  have HRL : Hid (w.heap.size < w2.heap.size) := Lib.hid HA2.out.lt
  clear hrg hbl hsz
  go_loopg [11] l.length (fun g v11 wr => ∃ (p : List Rw) (cnt : Nat), cnt ≤ g ∧ Hid (Rg anyE wr b w2.heap.size l p cnt ∧ Mp intE wr w.heap.size p ∧ Below w.heap.size w wr))
  case atStart => exact ⟨[], _, Nat.le_refl _, Lib.hid ⟨HR3.out, HA3.out, HB3.out⟩⟩
  case round =>
    obtain ⟨p, cnt, hg, HH⟩ := hrel
    go_wp2_with (at_next; refine wpList_mp_next (fun c => .iface 3 (.int .i64 c)) (fun v y hv => anyE_inv hv) rfl _ rfl rfl HH.out.1 ?_ ?_)
    · intro hpl
      subst hpl
      have HF : Hid (GivesM intE w p (.returned (.map (some w.heap.size))) wr) := Lib.hid ⟨_, rfl, HH.out.2.1, HH.out.2.2, Nat.le_refl _⟩
      go_wp2_with fail
      go_ret
      exact HF.out
    · intro x v w4 cnt1 hlx hpx hrg1 hlt hmu hen
      have HB4 : Hid (Below w.heap.size w w4) := Lib.hid (bel_mut HH.out.2.2 hmu (fun q hq => by
        have e : q = w2.heap.size := by simpa using hq
        have := HRL.out
        omega) HH.out.2.2.size)
      have HA4 : Hid (Mp intE w4 w.heap.size p) := Lib.hid (HH.out.2.1.mut hmu (by have := HRL.out; simp; omega))
      have hlen := HH.out.1.len
      have HLP : Hid (p.length ≤ 1000000) := Lib.hid (by omega)
      have HKX : Hid (x.length ≤ 1000000) := Lib.hid (Nat.le_trans (HKL.out _ ((look_mem hrg1.mp.srt).1 hlx)) (by omega))
      have HR4 := Lib.hid hrg1
      have HN := Lib.hid (number_any w4 (some v))
      clear hlx hpx hrg1 hmu
      go_wp2_with fail
      refine HN.out.mono ?_
      rintro e w5 ⟨rfl, hw⟩
      subst hw
      simp only [Option.getD_some]
      go_wp2_with (at_mapUpdate; refine wpList_mp_put (R := intE) rfl _ _ _ 40 3 rfl Try.underlying40 rfl HA4.out HLP.out rfl HKX.out rfl (intE_mk _) ?_; intro w6 hmp hmu2; go_frame)
      have HR6 := Lib.hid (HR4.out.mut hmu2 (by have := HBL.out; simp; omega) (by have := HRL.out; simp; omega))
      have HB6 : Hid (Below w.heap.size w w6) := Lib.hid (bel_mut HB4.out hmu2 (by simp) HB4.out.size)
      have HA6 := Lib.hid hmp
      clear hmp hmu2
      go_wp2_with fail
      go_roundg cnt1
      case measure => omega
      case rel => exact ⟨_, cnt1, Nat.le_refl _, Lib.hid ⟨HR6.out, HA6.out, HB6.out⟩⟩

end Go.Proofs.Ytaidaohkbbdimab
