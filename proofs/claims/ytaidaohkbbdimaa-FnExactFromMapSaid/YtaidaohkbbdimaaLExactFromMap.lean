/-
  FnExactFromMap: whatever the map, a nil one too: a tree of a map has just its entries. No condition.
-/
import Derived.Test.YtaidaohkbbdimaaLB
import Derived.Test.YtaidaohkbbdimaaWXN
namespace Go.Proofs.Ytaidaohkbbdimaa
open Go.RowKit

theorem srt_nextm {l : List Rw} (h : Srt l) {j : Nat} (hj : j + 1 < l.length) : Op.bytesLess l[j].1 l[j + 1].1 = true :=
  List.pairwise_iff_getElem.1 h j (j + 1) (by omega) hj (Nat.lt_succ_self j)

set_option maxHeartbeats 4000000 in
set_option maxRecDepth 100000 in
theorem fnExactFromMap_some {w : World} {b : Nat} {l : List Rw} (h : Mp intE w b l) :
    Calls Try.prog 3 #[.map (some b)] w (Ans w (.bool true)) := by
  have HMP := Lib.hid h
  have HZ := Lib.hid (zzFits3_any h)
  clear h
  by_cases hm : l.length ≤ 300
  · have hc : decide ((300 : Int) < (l.length : Int)) = false := decide_eq_false (by omega)
    go_enter Try.func3, Try.ntmps3
    go_wp2_with fail
    refine HZ.out.mono ?_
    rintro e w1 ⟨B, rfl, hb1⟩
    cases B with
    | false =>
      go_wp2_with fail
      go_ret
      exact ⟨rfl, hb1⟩
    | true =>
      have HM1 := Lib.hid (HMP.out.bel hb1)
      have HB1 := Lib.hid hb1
      clear hb1 HZ
      go_wp2_with (first
        | (at_len; refine wpList_mp_len (R := intE) rfl _ 22 3 rfl Try.underlying22 rfl HM1.out ?_)
        | (at_range; refine wpList_mp_range (R := intE) rfl _ 22 3 rfl Try.underlying22 rfl HM1.out ?_; intro w2 hrg hbl hsz))
      go_frame
      have HR2 := Lib.hid hrg
      have HB2 : Hid (Below w.heap.size w w2) := Lib.hid (HB1.out.trans (hbl.mono HB1.out.size))
      have HSZ := Lib.hid HB1.out.size
      clear hrg hbl hsz hc
      go_loopg [15] l.length (fun g v15 wr => ∃ (p : List Rw) (cnt : Nat), cnt ≤ g ∧ Hid (Rg intE wr b w1.heap.size l p cnt ∧ Below w.heap.size w wr ∧ ∀ x ∈ p, x.1.length ≤ 200))
      case atStart => exact ⟨[], _, Nat.le_refl _, Lib.hid ⟨HR2.out, HB2.out, by simp⟩⟩
      case round =>
        obtain ⟨p, cnt, hg, HH⟩ := hrel
        go_wp2_with (at_next; refine wpList_mp_next (fun c => .int .i64 c) (fun v y hv => intE_inv hv) rfl _ rfl rfl HH.out.1 ?_ ?_)
        · intro hpl
          subst hpl
          have HK1 : Hid (∀ x ∈ p, x.1.length ≤ 1000) := Lib.hid (fun x hx => Nat.le_trans (HH.out.2.2 x hx) (by omega))
          have HK2 : Hid (∀ x ∈ p, x.1.length ≤ 1000000) := Lib.hid (fun x hx => Nat.le_trans (HH.out.2.2 x hx) (by omega))
          have HSR := Lib.hid HH.out.1.srt
          have HN := Lib.hid (iFromMap_any HH.out.1.mp HK1.out (by omega))
          go_wp2_with fail
          refine HN.out.mono ?_
          rintro e w3 ⟨A3, c3, rfl, hr3, hb3⟩
          have Ha := Lib.hid hr3
          have HBB : Hid (Below w.heap.size w w3) := Lib.hid (HH.out.2.1.trans (hb3.mono HH.out.2.1.size))
          have HM3 : Hid (Mp intE w3 b p) := Lib.hid (HH.out.1.mp.bel hb3)
          clear hr3 hb3 HN
          obtain ⟨L, hL⟩ : ∃ L, L = p.length := ⟨_, rfl⟩
          have hlen : L ≤ 300 := by omega
          rw [← hL] at Ha
          rw [← hL]
          have HL := Lib.hid hL
          clear hL hm
          go_wp2_with fail
          go_loopg [6] L (fun g v6 wr => ∃ (j : Nat), v6 = .int .i64 ((j : Int) + 1) ∧ j ≤ L ∧ L - j ≤ g ∧ Below w3.heap.size w3 wr)
          case atStart => exact ⟨0, rfl, Nat.zero_le _, by omega, Below.refl _ _⟩
          case round =>
            obtain ⟨j, rfl, hjL, hg, hb⟩ := hrel
            by_cases hj : j + 1 < L
            · have hj1 : j + 1 < p.length := by have := HL.out; omega
              have hj0 : j < p.length := by omega
              have hlt : decide ((j : Int) + 1 < (L : Int)) = true := decide_eq_true (by omega)
              have hRA := Ha.out.bel hb
              rw [HL.out] at hRA
              obtain ⟨ad, hA, hadl, c0, c1⟩ := hRA.rw_ hj0
              obtain ⟨ad2, hA2, hadl2, d0, d1⟩ := hRA.rw_ hj1
              rw [hA] at hA2
              injection hA2 with hA2
              subst hA2
              subst hA
              clear hRA
              have hbl : Op.bytesLess (ba p[j].1).toList (ba p[j + 1].1).toList = true := by rw [ba_tl, ba_tl]; exact srt_nextm HSR.out hj1
              have hw0 : IntKind.i64.wrap ((j : Int) + 1 - 1) = (j : Int) := by rw [IntWalk.i64_in _ (by omega)]; omega
              have hw1 : IntKind.i64.wrap (j : Int) = (j : Int) := IntWalk.i64_in _ (by omega)
              have hw2 : IntKind.i64.wrap ((j : Int) + 1 + 1) = (j : Int) + 1 + 1 := IntWalk.i64_in _ (by omega)
              have hi0 : (0 : Int) ≤ (j : Int) := by omega
              have hi1 : (j : Int) < (L : Int) := by omega
              have hi2 : (0 : Int) ≤ (j : Int) + 1 := by omega
              have hi3 : (j : Int) + 1 < (L : Int) := by omega
              generalize ba p[j].1 = x at *
              generalize ba p[j + 1].1 = y at *
              clear c1 d1
              go_wp2_with fail
              go_quiet (fail)
              go_wp2_with fail
              go_roundg (L - (j + 1))
              case measure => omega
              case rel => exact ⟨j + 1, by go_num, by omega, Nat.le_refl _, below_drewN hb _⟩
            · have hlt : decide ((j : Int) + 1 < (L : Int)) = false := decide_eq_false (by omega)
              have hbx := HBB.out.trans (hb.mono HBB.out.size)
              have HBX := Lib.hid hbx
              have HM4 := Lib.hid (HM3.out.bel hb)
              have hSM := sMap_any (c := c3) (A := A3) (l := p) (w := wr) (by rw [← HL.out]; exact Ha.out.bel hb) HSR.out (by rw [← HL.out]; omega) HK1.out
              rw [← HL.out] at hSM
              have HSM := Lib.hid hSM
              clear hbx hSM hb
              go_wp2_with (at_len; refine wpList_mp_len (R := intE) rfl _ 22 3 rfl Try.underlying22 rfl HM4.out ?_; rw [← HL.out])
              refine HSM.out.mono ?_
              rintro e w5 ⟨b5, rfl, h5, hc5, _⟩
              have HEQ := Lib.hid (mapsEqual_any h5 (HM4.out.bel hc5) HK2.out)
              have HB5 : Hid (Below w.heap.size w w5) := Lib.hid (HBX.out.trans (hc5.mono HBX.out.size))
              clear h5 hc5 HSM
              go_wp2_with fail
              refine HEQ.out.mono ?_
              rintro e w6 ⟨rfl, hc6⟩
              have HB6 : Hid (Below w.heap.size w w6) := Lib.hid (HB5.out.trans (hc6.mono HB5.out.size))
              clear hc6 HEQ
              go_wp2_with fail
              go_ret
              exact ⟨rfl, HB6.out⟩
        · intro x c w4 cnt1 hlx hpx hrg1 hlt hmu hen
          have HB4 : Hid (Below w.heap.size w w4) := Lib.hid (bel_mut HH.out.2.1 hmu (fun q hq => by
            have e : q = w1.heap.size := by simpa using hq
            rw [e]; exact HSZ.out) HH.out.2.1.size)
          have HR4 := Lib.hid hrg1
          have hxs := ba_size x
          by_cases hx : (ba x).size ≤ 200
          · have hcx : decide ((200 : Int) < ((ba x).size : Int)) = false := decide_eq_false (by omega)
            have HK4 : Hid (∀ y ∈ put p x c, y.1.length ≤ 200) := Lib.hid (fun y hy => by
              rcases (mem_put HH.out.1.srt).1 hy with rfl | ⟨h1, _⟩
              · exact hxs ▸ hx
              · exact HH.out.2.2 y h1)
            clear hlx hpx hrg1 hmu hx hxs
            generalize ba x = z at *
            go_wp2_with fail
            go_roundg cnt1
            case measure => omega
            case rel => exact ⟨_, cnt1, Nat.le_refl _, Lib.hid ⟨HR4.out, HB4.out, HK4.out⟩⟩
          · have hcx : decide ((200 : Int) < ((ba x).size : Int)) = true := decide_eq_true (by omega)
            clear hlx hpx hrg1 hmu hx hxs
            generalize ba x = z at *
            go_wp2_with fail
            go_ret
            exact ⟨rfl, HB4.out⟩
  · have hc : decide ((300 : Int) < (l.length : Int)) = true := decide_eq_true (by omega)
    go_enter Try.func3, Try.ntmps3
    go_wp2_with fail
    refine HZ.out.mono ?_
    rintro e w1 ⟨B, rfl, hb1⟩
    cases B with
    | false =>
      go_wp2_with fail
      go_ret
      exact ⟨rfl, hb1⟩
    | true =>
      have HM1 := Lib.hid (HMP.out.bel hb1)
      have HB1 := Lib.hid hb1
      clear hb1 HZ
      go_wp2_with (at_len; refine wpList_mp_len (R := intE) rfl _ 22 3 rfl Try.underlying22 rfl HM1.out ?_)
      go_ret
      exact ⟨rfl, HB1.out⟩

set_option maxHeartbeats 2000000 in
set_option maxRecDepth 100000 in
theorem fnExactFromMap_nil (w : World) : Calls Try.prog 3 #[.map none] w (Ans w (.bool true)) := by
  have HZ := Lib.hid (zzFits3_nil w)
  go_enter Try.func3, Try.ntmps3
  go_wp2_with fail
  refine HZ.out.mono ?_
  rintro e w1 ⟨rfl, hb1⟩
  have HB1 := Lib.hid hb1
  have hln := fun ty => Maps.len_nil (P := Try.prog) (w := w1) Try.underlying22 ty
  have hrg := run_range_nilMap (P := Try.prog) w1 22 9 3 Try.underlying22
  have hnx : ∀ ty, (Instr.next (.pointer (some ⟨w1.heap.size, 0, none⟩)) false ty).run Try.prog (w1.alloc (.mapIter none 0 #[] 0)) = _ := fun ty => run_next_nilMap w1 ty 0 0 #[]
  clear hb1 HZ
  go_wp2_with fail
  refine wp_loop_rounds 1 ?_
  rw [rounds_succ]
  have hb2 : Below w1.heap.size w1 (w1.alloc (.mapIter none 0 #[] 0)) := (Below.refl _ _).alloc (Nat.le_refl _) _
  have HB2 : Hid (Below w.heap.size w (w1.alloc (.mapIter none 0 #[] 0))) := Lib.hid (HB1.out.trans (hb2.mono HB1.out.size))
  clear hb2
  go_wp2_with fail
  refine (iFromMap_nil _).mono ?_
  rintro e w3 ⟨A3, c3, rfl, hr3, hb3⟩
  have HB3 : Hid (Below w.heap.size w w3) := Lib.hid (HB2.out.trans (hb3.mono HB2.out.size))
  have hln3 := fun ty => Maps.len_nil (P := Try.prog) (w := w3) Try.underlying22 ty
  have HSM := Lib.hid (sMap_any (c := c3) hr3 Srt.nil (by simp) (by simp))
  clear hln hrg hnx hr3 hb3
  simp only [List.length_nil] at HSM
  simp only [List.length_nil]
  go_wp2_with fail
  refine wp_loop_rounds 1 ?_
  rw [rounds_succ]
  go_wp2_with fail
  refine HSM.out.mono ?_
  rintro e w5 ⟨b5, rfl, h5, hc5, _⟩
  have HEQ := Lib.hid (mapsEqual_nil h5)
  have HB5 : Hid (Below w.heap.size w w5) := Lib.hid (HB3.out.trans (hc5.mono HB3.out.size))
  clear h5 hc5 HSM hln3
  go_wp2_with fail
  refine HEQ.out.mono ?_
  rintro e w6 ⟨rfl, hc6⟩
  have HB6 : Hid (Below w.heap.size w w6) := Lib.hid (HB5.out.trans (hc6.mono HB5.out.size))
  clear hc6 HEQ
  go_wp2_with fail
  go_ret
  exact ⟨rfl, HB6.out⟩

end Go.Proofs.Ytaidaohkbbdimaa

namespace Go.Proofs.Ytaidaohkbbdimaa.fnExactFromMap
open Go.ChangeShapes Go.WideShapes Go.ChangeAt Go.RowKit Go.WideElems

set_option maxRecDepth 100000 in
theorem lifted (os : Os) (started : os.Started) (H : Type) (enc : TypeId × Value → H) :
    ReturnsInHanded {} Try.checked os 3 .any (Rows.fnExactFromMapSpec.pre6 enc Try.prog Try.f3 Rows.fnExactFromMapRow.domain false) (Rows.fnExactFromMapSpec.post enc Try.prog Try.f3 false true false false) := by
  refine returnsInHanded_of_change (C := Try.checked) own started (by kernel_rfl) Try.func3
    (ChangeSpec.witness6 (enc := enc) (C := Try.checked) false ⟨#[], #[.map none], []⟩ 8 (by kernel_rfl) (by kernel_rfl) (by kernel_rfl) (by kernel_rfl)) ?_
  intro W base args ds gs before hval0 hW hcnd _
  have hval : ∀ (j : Nat) t v, Try.f3.params[j]? = some t → args[j]? = some v → Value.okWide Try.prog W .any base t v := hval0
  have hW' := hW
  obtain ⟨p, q, hA0, hV, rfl, hfz, hnd⟩ := hW
  obtain ⟨rfl, rfl⟩ := trodVars_none hV
  rw [List.append_nil] at hW'
  have hA : DataW.TrodAll enc Try.prog W 0 (fun _ => true) true Try.f3.params.toList args.toList ds p := hA0
  have hA1 := hA
  rw [Try.params3] at hA hval
  obtain ⟨v0, vs0, d0, ds0, p0, q0, hargs, rfl, rfl, h0, r0⟩ := trodAll_cons hA
  obtain ⟨rfl, rfl, rfl⟩ := trodAll_nil r0
  obtain rfl : args = #[v0] := by cases args; simp_all
  obtain ⟨a0, rfl⟩ := okWide_map Try.underlying22 (hval 0 22 v0 rfl rfl)
  have h0' := h0
  obtain ⟨fuel, hf⟩ := h0'
  have hC : Calls Try.prog 3 #[.map a0] W (Ans W (.bool true)) := by
    rcases open_map Try.underlying22 hf with ⟨hcs, _⟩ | ⟨bm, es, clock, m, _, hcs, hb, _, F, _⟩
    · simp [Value.cells] at hcs
      subst hcs
      exact fnExactFromMap_nil W
    · simp [Value.cells] at hcs
      subst hcs
      obtain ⟨l, hl⟩ := Mp.came (n := es.size) (D := _) ⟨es, clock, hb, ⟨F.size, F.stamped, fun x hx => by
        obtain ⟨y, hy⟩ := F.reads x hx
        obtain ⟨z, hz, _⟩ := rd_val hy
        obtain ⟨a, hx', _, _⟩ := elemAt_int Try.underlying3 hz
        exact ⟨_, rd_mk (born := x.born) (rd_key hy) (by rw [hx']; exact intE_mk a)⟩⟩, Nat.le_refl _, rfl⟩
      exact fnExactFromMap_some hl
  exact hC.mono fun e W' ha => law_post hW' hA1 rfl rfl (by rw [Try.params3]; decide +kernel) (by kernel_rfl) rfl ha

theorem proved : Rows.FnExactFromMapSaid :=
  OpenClaim.holds_of_wide 3 Try.f3 rfl rfl rfl rfl rfl rfl rfl ⟨rfl, rfl, rfl, rfl, rfl⟩ rfl rfl rfl rfl rfl (by kernel_rfl) Try.func3 (by kernel_rfl)
    (of_decide_eq_true (by kernel_rfl)) (by unfold Func.isWrapper; first | (rw [if_pos (by decide +kernel)]; kernel_rfl) | (rw [if_neg (by decide +kernel)]; exact ⟨rfl, rfl⟩))
    (fun os started H enc _ => lifted os started H enc)

end Go.Proofs.Ytaidaohkbbdimaa.fnExactFromMap
