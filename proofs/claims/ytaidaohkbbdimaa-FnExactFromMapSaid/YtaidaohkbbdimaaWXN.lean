/-
  The walks, part XN: a nil map: zzFits3, maps.Equal, FromMap.
-/
import Derived.Test.YtaidaohkbbdimaaWY
namespace Go.Proofs.Ytaidaohkbbdimaa
open Go.RowKit

set_option maxHeartbeats 1000000 in
set_option maxRecDepth 100000 in
theorem zzFits3_nil (w : World) : Calls Try.prog 15 #[.map none] w (Ans w (.bool true)) := by
  have hln := fun ty => Maps.len_nil (P := Try.prog) (w := w) Try.underlying22 ty
  have hrg := run_range_nilMap (P := Try.prog) w 22 9 3 Try.underlying22
  have hnx : ∀ ty, (Instr.next (.pointer (some ⟨w.heap.size, 0, none⟩)) false ty).run Try.prog (w.alloc (.mapIter none 0 #[] 0)) = _ := fun ty => run_next_nilMap w ty 0 0 #[]
  go_enter Try.func15, Try.ntmps15
  go_wp2_with fail
  refine wp_loop_rounds 1 ?_
  rw [rounds_succ]
  go_wp2_with fail
  go_ret
  exact ⟨rfl, (Below.refl _ _).alloc (Nat.le_refl _) _⟩

set_option maxHeartbeats 1000000 in
set_option maxRecDepth 100000 in
theorem mapsEqual_nil {w : World} {b : Nat} (h : Mp intE w b []) : Calls Try.prog 17 #[.map (some b), .map none] w (Ans w (.bool true)) := by
  have H1 := Lib.hid h
  have hln := fun ty => Maps.len_nil (P := Try.prog) (w := w) Try.underlying22 ty
  clear h
  go_enter Try.func17, Try.ntmps17
  go_wp2_with (first
    | (at_len; refine wpList_mp_len (R := intE) rfl _ 22 3 rfl Try.underlying22 rfl H1.out ?_)
    | (at_range; refine wpList_mp_range (R := intE) rfl _ 22 3 rfl Try.underlying22 rfl H1.out ?_; intro w0 hrg hbl hsz))
  go_frame
  have HR0 := Lib.hid hrg
  have HB0 := Lib.hid hbl
  clear hrg hbl hsz
  go_loopg [16] 0 (fun g v16 wr => ∃ (p : List Rw) (cnt : Nat), cnt ≤ g ∧ Hid (Rg intE wr b w.heap.size [] p cnt ∧ Below w.heap.size w wr))
  case atStart => exact ⟨_, _, Nat.le_refl _, Lib.hid ⟨HR0.out, HB0.out⟩⟩
  case round =>
    obtain ⟨p, cnt, hg, HH⟩ := hrel
    go_wp2_with (at_next; refine wpList_mp_next (fun c => .int .i64 c) (fun v y hv => intE_inv hv) rfl _ rfl rfl HH.out.1 ?_ ?_)
    · intro _
      go_wp2_with fail
      go_ret
      exact ⟨rfl, HH.out.2⟩
    · intro x c w1 cnt1 hlx _ _ _ _ _
      cases hlx

set_option maxHeartbeats 2000000 in
set_option maxRecDepth 100000 in
theorem iFromMap_nil (w : World) : Calls Try.prog 16 #[.map none] w (FromM w []) := by
  obtain ⟨W, hW⟩ : ∃ W, W = w.alloc (.map #[] 0) := ⟨_, rfl⟩
  have hs : W.heap.size = w.heap.size + 1 := by rw [hW]; simp
  have hbW : Below w.heap.size w W := by rw [hW]; exact (Below.refl _ w).alloc (Nat.le_refl _) _
  have HA0 : Hid (Mp anyE W w.heap.size []) := Lib.hid (by rw [hW]; exact Mp.made w anyE)
  have HBW := Lib.hid hbW
  have HS := Lib.hid hs
  have hmm := @run_makeMap Try.prog
  have hrg := run_range_nilMap (P := Try.prog) W 22 9 3 Try.underlying22
  have hnx : ∀ ty, (Instr.next (.pointer (some ⟨W.heap.size, 0, none⟩)) false ty).run Try.prog (W.alloc (.mapIter none 0 #[] 0)) = _ := fun ty => run_next_nilMap W ty 0 0 #[]
  clear hs hbW
  go_enter Try.func16, Try.ntmps16
  go_upto_region 2 with fail
  rw [show w.alloc (.map #[] 0) = W from hW.symm]
  clear hW hmm
  go_wp2_with fail
  refine wp_loop_rounds 1 ?_
  rw [rounds_succ]
  have hb1 : Below W.heap.size W (W.alloc (.mapIter none 0 #[] 0)) := (Below.refl _ _).alloc (Nat.le_refl _) _
  have HN := Lib.hid (newFromMap_any (HA0.out.bel hb1) (by simp) (by simp))
  have HBV : Hid (Below w.heap.size w (W.alloc (.mapIter none 0 #[] 0))) := Lib.hid (HBW.out.trans (hb1.mono HBW.out.size))
  clear hb1
  go_wp2_with fail
  refine HN.out.mono ?_
  rintro e w2 ⟨t, n, rfl, hM⟩
  have HMK := Lib.hid hM
  clear hM HN hrg hnx
  go_wp2_with fail
  refine (walker_any _ w2.heap.size 0).mono ?_
  rintro e w3 ⟨rfl, hw⟩
  have hb2 : Below w2.heap.size w2 (w2.alloc (.cells #[.slice none 0 0] 24)) := (Below.refl _ w2).alloc (Nat.le_refl _) _
  have hb3 : Below w2.heap.size w2 w3 := by rw [hw]; exact hb2.trans ((boxed_below _ w2.heap.size 0).mono hb2.size)
  have hC := boxed_cap (w := w2.alloc (.cells #[.slice none 0 0] 24)) 0 (Bk.new w2 24 #[.slice none 0 0])
  rw [← hw, World.size_alloc] at hC
  have HC := Lib.hid hC
  have HT3 := Lib.hid (HMK.out.tr.bel hb3)
  have hbw := HBV.out.trans (HMK.out.bel.mono HBV.out.size)
  have HB3 : Hid (Below w.heap.size w w3) := Lib.hid (hbw.trans (hb3.mono hbw.size))
  have HBO : Hid (w.heap.size ≤ w2.heap.size) := Lib.hid hbw.size
  have HEN : Hid (n.er.ents = []) := Lib.hid (by rw [HMK.out.ents]; rfl)
  have hWk := walk_any (walk_visitor HC.out) (Wk.start HC.out) (fun w acc h => h.tree2 HT3.out HC.out.out) (by rw [HEN.out]; simp)
  rw [vis_first, HEN.out, first_all] at hWk
  have HWK := Lib.hid hWk
  clear hw hb2 hb3 hC hbw hWk
  go_wp2_with fail
  refine HWK.out.mono ?_
  rintro e w4 ⟨rfl, hk⟩
  have HT4 := Lib.hid (hk.tree2 HT3.out HC.out.out)
  obtain ⟨A', c', k1, hg4⟩ := hk.ends HB3.out HBO.out
  obtain ⟨A5, c5, he5, hr5, hb5⟩ := hg4
  have HG := Lib.hid (And.intro hr5 hb5)
  injection he5 with he5
  injection he5 with e1 e2 e3
  subst e1
  clear hk hr5 hb5 e2 e3 HWK
  go_wp2_with fail
  go_quiet ((go_at_call 43; refine Calls.quiet_of_same (treeLen_any (HT4.out.bel (below_drewN (Below.refl _ w4) _)))))
  rw [HEN.out]
  go_wp2_with fail
  go_ret2
  exact ⟨_, c', rfl, HG.out.1.bel (below_drewN (Below.refl _ w4) _), below_drewN HG.out.2 _⟩

end Go.Proofs.Ytaidaohkbbdimaa
