/- The plain law behind FnIntegerExact: what 'integer' answers, by the decimal text. -/
import Derived.Test.Qxb6604023aDec
namespace Go.Proofs.Qxb6604023a
open Go.RowKit

/-- The bound on the digits' number. -/
def lim (neg : Bool) (top : Nat) : Nat := if neg then top + 1 else top
/-- The signed number. -/
def sgn (neg : Bool) (u : Nat) : Int := if neg then -(u : Int) else (u : Int)

theorem lim_le (neg : Bool) {top : Nat} (h : top ≤ 9223372036854775807) : lim neg top ≤ 9223372036854775808 := by unfold lim; split <;> omega

theorem fin_no0 {neg : Bool} {D : List UInt8} {top : Int} (h : ¬ (1 ≤ D.length ∧ (D.length = 1 ∨ (D.getD 0 0).toNat ≠ 48))) : fin neg D top = none := by
  unfold fin
  rw [if_pos]
  omega

theorem fin_no {neg : Bool} {D : List UInt8} {u top : Nat} (ht : top ≤ 9223372036854775807) (hd : IsDec D u) (h : lim neg top < u) : fin neg D (top : Int) = none := by
  unfold fin
  by_cases h0 : D.length = 0 ∨ 19 < D.length ∨ (1 < D.length ∧ (D.getD 0 0).toNat = 48)
  · rw [if_pos h0]
  · rw [if_neg h0, uval_val hd.dig (by omega), hd.num]
    cases neg with
    | false =>
      simp only [lim] at h
      rw [if_pos rfl, if_neg (by simp at h; omega)]
    | true =>
      simp only [lim] at h
      rw [if_neg (by simp), if_neg]
      rw [wrap_u64]
      simp at h
      omega

theorem fin_yes {neg : Bool} {D : List UInt8} {u top : Nat} (ht : top ≤ 9223372036854775807) (hd : IsDec D u) (h : u ≤ lim neg top) : fin neg D (top : Int) = some (sgn neg u) := by
  have hT := lim_le neg ht
  have hlen : D.length ≤ 19 := by
    rcases Nat.lt_or_ge 1 D.length with h1 | h1
    · have h2 := hd.low h1
      rcases Nat.lt_or_ge 19 D.length with h3 | h3
      · have h4 : (10 : Nat) ^ 19 ≤ 10 ^ (D.length - 1) := pow_mono (by omega)
        have h5 : (9223372036854775808 : Nat) < 10 ^ 19 := by decide
        omega
      · exact h3
    · omega
  have hpos := hd.pos
  have hlead := hd.lead
  unfold fin
  rw [if_neg (by omega), uval_val hd.dig hlen, hd.num]
  cases neg with
  | false =>
    simp [lim] at h
    rw [if_pos rfl, if_pos (by omega)]
    rw [show sgn false u = (u : Int) from rfl]
    refine congrArg some ?_
    unfold wrap64
    omega
  | true =>
    simp [lim] at h
    rw [if_neg (by simp), if_pos (by rw [wrap_u64]; omega)]
    rw [wrap_u64, show sgn true u = -(u : Int) from rfl]
    refine congrArg some ?_
    unfold wrap64
    omega

section
variable {l : List UInt8} {i : Nat}

/-- Where the digits begin, and where they end. -/
def beg (l : List UInt8) (i : Nat) : Nat := i + skip (l.drop i)
def fence (l : List UInt8) (i : Nat) : Nat := beg l i + (run (l.drop i)).length

theorem run_take : run (l.drop i) = (l.drop (beg l i)).takeWhile isDig := by
  unfold run beg
  rw [List.drop_drop]

theorem run_len : (run (l.drop i)).length ≤ l.length - beg l i := by
  rw [run_take]
  have := (List.takeWhile_sublist isDig (l := l.drop (beg l i))).length_le
  rwa [List.length_drop] at this

theorem takeWhile_get : ∀ (t : List UInt8) (j : Nat), j < (t.takeWhile isDig).length → (t.takeWhile isDig).getD j 0 = t.getD j 0 ∧ isDig (t.getD j 0) = true
  | [], j, h => by simp at h
  | b :: t, j, h => by
    cases e : isDig b with
    | false => simp [e] at h
    | true =>
      cases j with
      | zero => simp [e]
      | succ j =>
        have := takeWhile_get t j (by simpa [e] using h)
        simpa [e] using this
theorem takeWhile_end : ∀ (t : List UInt8), (t.takeWhile isDig).length = t.length ∨ ((t.takeWhile isDig).length < t.length ∧ isDig (t.getD (t.takeWhile isDig).length 0) = false)
  | [] => .inl rfl
  | b :: t => by
    cases e : isDig b with
    | false => right; simp [e]
    | true => simpa [e] using takeWhile_end t

theorem run_get (j : Nat) (h : j < (run (l.drop i)).length) : (run (l.drop i)).getD j 0 = l.getD (beg l i + j) 0 ∧ isDig (l.getD (beg l i + j) 0) = true := by
  rw [run_take] at h ⊢
  have := takeWhile_get _ j h
  rwa [getD_drop] at this

theorem run_allDig : allDig (run (l.drop i)) := fun t ht => by
  rw [(run_get t ht).1]
  exact (run_get t ht).2

theorem beg_le (h : i < l.length) : beg l i ≤ l.length := by
  unfold beg skip
  split <;> omega

theorem fence_le (h : i < l.length) : fence l i ≤ l.length := by
  have h1 := run_len (l := l) (i := i)
  have h2 := beg_le h
  unfold fence
  omega

theorem fence_end (h : i < l.length) : fence l i = l.length ∨ (fence l i < l.length ∧ isDig (l.getD (fence l i) 0) = false) := by
  have h2 := beg_le h
  have := takeWhile_end (l.drop (beg l i))
  rw [← run_take, List.length_drop, getD_drop] at this
  unfold fence
  rcases this with h3 | h3
  · left; omega
  · right; exact ⟨by omega, h3.2⟩

theorem fence_dig (k : Nat) (h1 : beg l i ≤ k) (h2 : k < fence l i) : isDig (l.getD k 0) = true := by
  have := (run_get (l := l) (i := i) (k - beg l i) (by unfold fence at h2; omega)).2
  rwa [show beg l i + (k - beg l i) = k by omega] at this

/-- The digits are a decimal where the first test lets them by. -/
theorem run_dec (h : 1 ≤ (run (l.drop i)).length ∧ ((run (l.drop i)).length = 1 ∨ ((run (l.drop i)).getD 0 0).toNat ≠ 48)) : IsDec (run (l.drop i)) (val (run (l.drop i))) :=
  ⟨h.1, run_allDig, fun h1 => by omega, rfl⟩
end
end Go.Proofs.Qxb6604023a
