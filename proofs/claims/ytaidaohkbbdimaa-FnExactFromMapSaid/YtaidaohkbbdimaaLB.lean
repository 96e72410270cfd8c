/-
  The laws, part C: plain lemmas and forms of contracts that several laws use.
-/
import Derived.Test.YtaidaohkbbdimaaLA
import Derived.Test.YtaidaohkbbdimaaWT
namespace Go.Proofs.Ytaidaohkbbdimaa
open Go.RowKit

theorem len_first (l : List Rw) (m : Int) : (first l m).length ≤ l.length := by
  unfold first
  split
  · exact Nat.le_refl _
  · rw [List.length_take]; exact Nat.min_le_right _ _
theorem len_und (l : List Rw) (s : Bs) : (und l s).length ≤ l.length := List.length_filter_le _ _
theorem len_abv (l : List Rw) (s : Bs) : (abv l s).length ≤ l.length := List.length_filter_le _ _
def cutO (s : Bs) : Opr := ⟨2, s, 0⟩

theorem mem_step {l : List Rw} {o : Opr} (h : Srt l) {x : Rw} (hx : x ∈ step l o) : x ∈ l ∨ x.1 = o.key := by
  unfold step at hx
  split at hx
  · exact Or.inl (mem_drop1.1 hx).1
  · split at hx
    · exact Or.inl (mem_nund.1 hx).1
    · rcases (mem_put h).1 hx with rfl | ⟨h1, _⟩
      · exact Or.inr rfl
      · exact Or.inl h1
theorem rowsFrom_keys : ∀ (ops : List Opr) {l : List Rw}, Srt l → ∀ x ∈ rowsFrom l ops, x ∈ l ∨ ∃ o ∈ ops, o.key = x.1
  | [], l, _, x, hx => Or.inl hx
  | o :: r, l, h, x, hx => by
    rw [rowsFrom_cons] at hx
    rcases rowsFrom_keys r (srt_step (o := o) h) x hx with h1 | ⟨p, hp, e⟩
    · rcases mem_step h h1 with h2 | h2
      · exact Or.inl h2
      · exact Or.inr ⟨o, by simp, h2.symm⟩
    · exact Or.inr ⟨p, by simp [hp], e⟩
theorem rows_keys {ops : List Opr} {k : Nat} (h : ∀ o ∈ ops, o.key.length ≤ k) : ∀ x ∈ rows ops, x.1.length ≤ k := fun x hx => by
  rcases rowsFrom_keys ops Srt.nil x hx with h1 | ⟨o, ho, e⟩
  · cases h1
  · rw [← e]; exact h o ho
/-- Operations written out of rows. -/
theorem oks_puts {rs : List Rw} (h : rs.length ≤ 300) (hk : ∀ x ∈ rs, x.1.length ≤ 200) : (rs.map putOp).length ≤ 300 ∧ ∀ o ∈ rs.map putOp, o.key.length ≤ 200 :=
  ⟨by rw [List.length_map]; exact h, fun o ho => by obtain ⟨x, hx, rfl⟩ := List.mem_map.1 ho; exact hk x hx⟩
theorem oks_drops {rs : List Rw} (h : rs.length ≤ 300) (hk : ∀ x ∈ rs, x.1.length ≤ 200) : (rs.map dropOp).length ≤ 300 ∧ ∀ o ∈ rs.map dropOp, o.key.length ≤ 200 :=
  ⟨by rw [List.length_map]; exact h, fun o ho => by obtain ⟨x, hx, rfl⟩ := List.mem_map.1 ho; exact hk x hx⟩
theorem fit_rows {ops : List Opr} (h : ops.length ≤ 300 ∧ ∀ o ∈ ops, o.key.length ≤ 200) : (rows ops).length ≤ 300 ∧ ∀ x ∈ rows ops, x.1.length ≤ 200 :=
  ⟨Nat.le_trans (len_rows ops) h.1, rows_keys h.2⟩
theorem oks_two {a b : List Opr} (ha : a.length ≤ 300 ∧ ∀ o ∈ a, o.key.length ≤ 200) (hb : b.length ≤ 300 ∧ ∀ o ∈ b, o.key.length ≤ 200) : Oks (a ++ b) :=
  oks_app (oks_fit ha) hb.1 (oks_fit hb).2

theorem iWalk0_any {w : World} {A : Option Addr} {c : Nat} {ops : List Opr} (h : Rd w 3 A ops.length (flat opc ops)) (hO : Oks ops) :
    Calls Try.prog 27 #[.slice A ops.length c, .int .i64 0] w (Gives rwc 2 w (rows ops)) := by
  have := iWalk_any (c := c) 0 h hO
  rw [first_all] at this
  exact this
theorem iUnder0_any {w : World} {A : Option Addr} {c : Nat} {ops : List Opr} (s : Bs) (h : Rd w 3 A ops.length (flat opc ops)) (hO : Oks ops) :
    Calls Try.prog 24 #[.slice A ops.length c, .string (ba s), .int .i64 0] w (Gives rwc 2 w (und (rows ops) s)) := by
  have := iUnder_any (c := c) s 0 h hO
  rw [first_all] at this
  exact this
theorem iAbove0_any {w : World} {A : Option Addr} {c : Nat} {ops : List Opr} (s : Bs) (h : Rd w 3 A ops.length (flat opc ops)) (hO : Oks ops) :
    Calls Try.prog 36 #[.slice A ops.length c, .string (ba s), .int .i64 0] w (Gives rwc 2 w (abv (rows ops) s)) := by
  have := iAbove_any (c := c) s 0 h hO
  rw [first_all] at this
  exact this

end Go.Proofs.Ytaidaohkbbdimaa
