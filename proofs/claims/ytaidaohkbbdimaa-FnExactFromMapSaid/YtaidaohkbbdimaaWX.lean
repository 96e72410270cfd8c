/-
  The walks, part X: maps: spec.Map, maps.Equal, zzFits3.
-/
import Derived.Test.YtaidaohkbbdimaaWM
import Derived.Test.YtaidaohkbbdimaaWT
namespace Go.Proofs.Ytaidaohkbbdimaa
open Go.RowKit

/-- A map is answered that holds just the rows. -/
def GivesM (R : El) (w : World) (l : List Rw) (e : Ending) (w' : World) : Prop := ∃ b, e = .returned (.map (some b)) ∧ Mp R w' b l ∧ Below w.heap.size w w' ∧ w.heap.size ≤ b

theorem bel_mut {a w w' : World} {B : Nat} {F : List Nat} (h : Below B a w) (m : Mut w w' F) (hF : ∀ b ∈ F, B ≤ b) (hB : B ≤ w.heap.size) : Below B a w' := h.trans (m.below hF hB)

theorem rows_put (l : List Rw) (x : Rw) : rows ((l ++ [x]).map putOp) = put (rows (l.map putOp)) x.1 x.2 := by
  rw [List.map_append, List.map_cons, List.map_nil, rows_snoc, step_put]

set_option maxHeartbeats 2000000 in
set_option maxRecDepth 100000 in
theorem sMap_any {w : World} {A : Option Addr} {c : Nat} {l : List Rw} (h : Rd w 2 A l.length (flat rwc l)) (hs : Srt l) (hl : l.length ≤ 1000) (hk : ∀ x ∈ l, x.1.length ≤ 1000) :
    Calls Try.prog 18 #[.slice A l.length c] w (GivesM intE w l) := by
  have HR := Lib.hid h
  have HKL := Lib.hid hk
  have HO : Hid (rows (l.map putOp) = l) := Lib.hid (rows_own hs)
  clear h hk hs
  obtain ⟨L, hL⟩ : ∃ L, L = l.length := ⟨_, rfl⟩
  rw [← hL] at HR hl
  rw [← hL]
  have HL := Lib.hid hL
  clear hL
  have hmm := @run_makeMap Try.prog
  go_enter Try.func18, Try.ntmps18
  go_wp2_with fail
  clear hmm
  go_loopg [9] L (fun g v9 wr => ∃ (i : Nat), v9 = .int .i64 i ∧ i ≤ L ∧ L - i ≤ g ∧ Hid (Mp intE wr w.heap.size (rows ((l.take i).map putOp)) ∧ Below w.heap.size w wr))
  case atStart => exact ⟨0, rfl, Nat.zero_le _, by omega, Lib.hid ⟨by simpa [rows, rowsFrom] using Mp.made w intE, (Below.refl _ _).alloc (Nat.le_refl _) _⟩⟩
  case round =>
    obtain ⟨i, rfl, hiL, hg, HM⟩ := hrel
    by_cases hi : i < L
    · have hi2 : i < l.length := by have := HL.out; omega
      have hlt : decide ((i : Int) < (L : Int)) = true := by simpa using hi
      have hR2 := HR.out.bel HM.out.2
      rw [HL.out] at hR2
      obtain ⟨ad, hA, hadl, c0, c1⟩ := hR2.rw_ hi2
      subst hA
      have hb1 : Below wr.heap.size wr (wr.alloc (.cells #[.string (ba l[i].1), .int .i64 l[i].2] 28)) := (Below.refl _ wr).alloc (Nat.le_refl _) _
      have HM1 : Hid (Mp intE (wr.alloc (.cells #[.string (ba l[i].1), .int .i64 l[i].2] 28)) w.heap.size (rows ((l.take i).map putOp))) := Lib.hid (HM.out.1.bel hb1)
      have HB1 : Hid (Below w.heap.size w (wr.alloc (.cells #[.string (ba l[i].1), .int .i64 l[i].2] 28))) := Lib.hid (HM.out.2.alloc HM.out.2.size _)
      have HFS : Hid (rows ((l.take (i + 1)).map putOp) = put (rows ((l.take i).map putOp)) l[i].1 l[i].2) := Lib.hid (by rw [take_more2 hi2, rows_put])
      have HLN : Hid ((rows ((l.take i).map putOp)).length ≤ 1000000) := Lib.hid (by have h1 := len_rows ((l.take i).map putOp); rw [List.length_map] at h1; have := List.length_take_le i l; omega)
      have HKX : Hid (l[i].1.length ≤ 1000000) := Lib.hid (by have := HKL.out _ (List.getElem_mem hi2); omega)
      have hw1 : IntKind.i64.wrap ((i : Int) + 1) = (i : Int) + 1 := IntWalk.i64_in _ (by omega)
      clear hR2 hb1
      generalize l[i] = y at *
      go_wp2_with (at_mapUpdate; refine wpList_mp_put (R := intE) rfl _ _ _ 22 3 rfl Try.underlying22 rfl HM1.out HLN.out rfl HKX.out rfl (intE_mk _) ?_; intro w5 hmp hmu)
      rw [← HFS.out] at hmp
      have HB5 : Hid (Below w.heap.size w w5) := Lib.hid (bel_mut HB1.out hmu (by simp) HB1.out.size)
      have HM5 := Lib.hid hmp
      clear hmp hmu
      go_wp2_with fail
      go_roundg (L - (i + 1))
      case measure => omega
      case rel => exact ⟨i + 1, by go_num, by omega, Nat.le_refl _, Lib.hid ⟨HM5.out, HB5.out⟩⟩
    · have hlt : decide ((i : Int) < (L : Int)) = false := by simpa using hi
      have HF : Hid (GivesM intE w l (.returned (.map (some w.heap.size))) wr) := Lib.hid ⟨_, rfl, by
        have h := HM.out.1
        rw [List.take_of_length_le (by have := HL.out; omega), HO.out] at h
        exact h, HM.out.2, Nat.le_refl _⟩
      go_wp2_with fail
      go_ret
      exact HF.out

set_option maxHeartbeats 2000000 in
set_option maxRecDepth 100000 in
theorem mapsEqual_any {w : World} {b1 b2 : Nat} {l : List Rw} (h1 : Mp intE w b1 l) (h2 : Mp intE w b2 l) (hk : ∀ x ∈ l, x.1.length ≤ 1000000) :
    Calls Try.prog 17 #[.map (some b1), .map (some b2)] w (Ans w (.bool true)) := by
  have H1 := Lib.hid h1
  have H2 := Lib.hid h2
  have HKL := Lib.hid hk
  clear h1 h2 hk
  go_enter Try.func17, Try.ntmps17
  go_wp2_with (first
    | (at_len; refine wpList_mp_len (R := intE) rfl _ 22 3 rfl Try.underlying22 rfl H1.out ?_)
    | (at_len; refine wpList_mp_len (R := intE) rfl _ 22 3 rfl Try.underlying22 rfl H2.out ?_)
    | (at_range; refine wpList_mp_range (R := intE) rfl _ 22 3 rfl Try.underlying22 rfl H1.out ?_; intro w0 hrg hbl hsz))
  go_frame
  have HR0 := Lib.hid hrg
  have HB0 := Lib.hid hbl
  clear hrg hbl hsz
  go_loopg [16] l.length (fun g v16 wr => ∃ (p : List Rw) (cnt : Nat), cnt ≤ g ∧ Hid (Rg intE wr b1 w.heap.size l p cnt ∧ Below w.heap.size w wr))
  case atStart => exact ⟨_, _, Nat.le_refl _, Lib.hid ⟨HR0.out, HB0.out⟩⟩
  case round =>
    obtain ⟨p, cnt, hg, HH⟩ := hrel
    go_wp2_with (at_next; refine wpList_mp_next (fun c => .int .i64 c) (fun v y hv => intE_inv hv) rfl _ rfl rfl HH.out.1 ?_ ?_)
    · intro _
      go_wp2_with fail
      go_ret
      exact ⟨rfl, HH.out.2⟩
    · intro x c w1 cnt1 hlx hpx hrg1 hlt hmu hen
      have HB1 : Hid (Below w.heap.size w w1) := Lib.hid (bel_mut HH.out.2 hmu (by simp) HH.out.2.size)
      have HM2 : Hid (Mp intE w1 b2 l) := Lib.hid (H2.out.bel HB1.out)
      have HKX : Hid (x.length ≤ 1000000) := Lib.hid (HKL.out _ ((look_mem HM2.out.srt).1 hlx))
      have HLX := Lib.hid hlx
      have HR1 := Lib.hid hrg1
      clear hlx hpx hrg1 hmu
      go_wp2_with (at_lookup; refine wpList_mp_look (l := l) rfl _ _ 22 3 rfl Try.underlying22 (by kernel_rfl) rfl HM2.out rfl HKX.out ?_; rw [HLX.out]; simp only [Option.getD_some, Option.isSome_some])
      go_wp2_with fail
      go_roundg cnt1
      case measure => omega
      case rel => exact ⟨_, cnt1, Nat.le_refl _, Lib.hid ⟨HR1.out, HB1.out⟩⟩

set_option maxHeartbeats 2000000 in
set_option maxRecDepth 100000 in
/-- Whatever it answers, nothing turns; where it answers yes, the map is not too long. -/
theorem zzFits3_any {w : World} {b : Nat} {l : List Rw} (h : Mp intE w b l) :
    Calls Try.prog 15 #[.map (some b)] w (fun e w' => ∃ B : Bool, Ans w (.bool B) e w') := by
  have H1 := Lib.hid h
  clear h
  by_cases hm : l.length ≤ 2147483647
  · have hc : decide ((2147483647 : Int) < (l.length : Int)) = false := decide_eq_false (by omega)
    go_enter Try.func15, Try.ntmps15
    go_wp2_with (first
      | (at_len; refine wpList_mp_len (R := intE) rfl _ 22 3 rfl Try.underlying22 rfl H1.out ?_)
      | (at_range; refine wpList_mp_range (R := intE) rfl _ 22 3 rfl Try.underlying22 rfl H1.out ?_; intro w0 hrg hbl hsz))
    go_frame
    have HR0 := Lib.hid hrg
    have HB0 := Lib.hid hbl
    clear hrg hbl hsz
    go_loopg [9] l.length (fun g v9 wr => ∃ (p : List Rw) (cnt : Nat), cnt ≤ g ∧ Hid (Rg intE wr b w.heap.size l p cnt ∧ Below w.heap.size w wr))
    case atStart => exact ⟨_, _, Nat.le_refl _, Lib.hid ⟨HR0.out, HB0.out⟩⟩
    case round =>
      obtain ⟨p, cnt, hg, HH⟩ := hrel
      go_wp2_with (at_next; refine wpList_mp_next (fun c => .int .i64 c) (fun v y hv => intE_inv hv) rfl _ rfl rfl HH.out.1 ?_ ?_)
      · intro _
        go_wp2_with fail
        go_ret
        exact ⟨_, rfl, HH.out.2⟩
      · intro x c w1 cnt1 hlx hpx hrg1 hlt hmu hen
        have HB1 : Hid (Below w.heap.size w w1) := Lib.hid (bel_mut HH.out.2 hmu (by simp) HH.out.2.size)
        have HR1 := Lib.hid hrg1
        clear hlx hpx hrg1 hmu
        by_cases hx : (ba x).size ≤ 2147483647
        · have hcx : decide ((2147483647 : Int) < ((ba x).size : Int)) = false := decide_eq_false (by omega)
          clear hx
          generalize ba x = z at *
          go_wp2_with fail
          go_roundg cnt1
          case measure => omega
          case rel => exact ⟨_, cnt1, Nat.le_refl _, Lib.hid ⟨HR1.out, HB1.out⟩⟩
        · have hcx : decide ((2147483647 : Int) < ((ba x).size : Int)) = true := decide_eq_true (by omega)
          clear hx
          generalize ba x = z at *
          go_wp2_with fail
          go_ret
          exact ⟨_, rfl, HB1.out⟩
  · have hc : decide ((2147483647 : Int) < (l.length : Int)) = true := decide_eq_true (by omega)
    go_enter Try.func15, Try.ntmps15
    go_wp2_with (first
      | (at_len; refine wpList_mp_len (R := intE) rfl _ 22 3 rfl Try.underlying22 rfl H1.out ?_))
    go_ret
    exact ⟨_, rfl, Below.refl _ _⟩

end Go.Proofs.Ytaidaohkbbdimaa
