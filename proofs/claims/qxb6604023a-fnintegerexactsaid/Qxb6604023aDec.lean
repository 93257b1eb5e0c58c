/- Decimal text and number: plain. -/
import Derived.Test.Qxb6604023aPlain
namespace Go.Proofs.Qxb6604023a
open Go.RowKit

/-- The number that a run of digits names. -/
def val (D : List UInt8) : Nat := D.foldl (fun u b => u * 10 + (b.toNat - 48)) 0
def allDig (D : List UInt8) : Prop := ∀ t, t < D.length → isDig (D.getD t 0) = true

theorem foldl_val (D : List UInt8) : ∀ u : Nat, D.foldl (fun u b => u * 10 + (b.toNat - 48)) u = u * 10 ^ D.length + val D := by
  induction D with
  | nil => intro u; simp [val]
  | cons b D ih =>
    intro u
    simp only [List.foldl_cons, List.length_cons, val]
    rw [ih, ih]
    rw [Nat.pow_succ, Nat.zero_mul, Nat.zero_add, Nat.add_mul]
    rw [Nat.mul_assoc, Nat.mul_comm 10, Nat.add_assoc]
theorem val_cons (b : UInt8) (D : List UInt8) : val (b :: D) = (b.toNat - 48) * 10 ^ D.length + val D := by
  show D.foldl _ _ = _
  rw [foldl_val]
  simp
theorem val_nil : val [] = 0 := rfl
theorem val_snoc (D : List UInt8) (b : UInt8) : val (D ++ [b]) = val D * 10 + (b.toNat - 48) := by simp [val]

theorem allDig_cons {b : UInt8} {D : List UInt8} (h : allDig (b :: D)) : isDig b = true ∧ allDig D :=
  ⟨by simpa using h 0 (by simp), fun t ht => by simpa using h (t + 1) (by simpa using ht)⟩
theorem allDig_mk {b : UInt8} {D : List UInt8} (hb : isDig b = true) (h : allDig D) : allDig (b :: D) := by
  intro t ht
  cases t with
  | zero => simpa using hb
  | succ t => simpa using h t (by simpa using ht)

theorem val_lt : ∀ (D : List UInt8), allDig D → val D < 10 ^ D.length
  | [], _ => by simp [val_nil]
  | b :: D, h => by
    obtain ⟨hb, hD⟩ := allDig_cons h
    have h1 := isDig_cases hb
    have h2 := val_lt D hD
    rw [val_cons, List.length_cons, Nat.pow_succ]
    have h3 : (b.toNat - 48) * 10 ^ D.length ≤ 9 * 10 ^ D.length := Nat.mul_le_mul_right _ (by omega)
    omega

theorem val_ge {b : UInt8} {D : List UInt8} (hb : isDig b = true) (hz : b.toNat ≠ 48) : 10 ^ D.length ≤ val (b :: D) := by
  have h1 := isDig_cases hb
  rw [val_cons]
  have h3 : 1 * 10 ^ D.length ≤ (b.toNat - 48) * 10 ^ D.length := Nat.mul_le_mul_right _ (by omega)
  omega

/-- 'the first difference decides', as the scan has it. -/
def lexLe : List UInt8 → List UInt8 → Bool
  | b :: D, c :: E => if b.toNat = c.toNat then lexLe D E else decide (b.toNat < c.toNat)
  | _, _ => true

theorem lexLe_val : ∀ (D E : List UInt8), D.length = E.length → allDig D → allDig E → lexLe D E = decide (val D ≤ val E)
  | [], [], _, _, _ => by simp [lexLe, val_nil]
  | [], _ :: _, h, _, _ => by simp at h
  | _ :: _, [], h, _, _ => by simp at h
  | b :: D, c :: E, hl, hD, hE => by
    obtain ⟨hb, hD'⟩ := allDig_cons hD
    obtain ⟨hc, hE'⟩ := allDig_cons hE
    have hl' : D.length = E.length := by simpa using hl
    have h1 := isDig_cases hb
    have h2 := isDig_cases hc
    have hd := val_lt D hD'
    have he := val_lt E hE'
    rw [hl'] at hd
    rw [val_cons, val_cons, hl']
    unfold lexLe
    by_cases e : b.toNat = c.toNat
    · rw [if_pos e, lexLe_val D E hl' hD' hE', e]
      simp
    · rw [if_neg e]
      rcases Nat.lt_or_gt_of_ne e with h | h
      · have h3 : (b.toNat - 48 + 1) * 10 ^ E.length ≤ (c.toNat - 48) * 10 ^ E.length := Nat.mul_le_mul_right _ (by omega)
        rw [Nat.add_mul, Nat.one_mul] at h3
        rw [decide_eq_true h, eq_comm, decide_eq_true_iff]
        omega
      · have h3 : (c.toNat - 48 + 1) * 10 ^ E.length ≤ (b.toNat - 48) * 10 ^ E.length := Nat.mul_le_mul_right _ (by omega)
        rw [Nat.add_mul, Nat.one_mul] at h3
        rw [decide_eq_false (by omega), eq_comm, decide_eq_false_iff_not]
        omega

theorem val_inj : ∀ (D E : List UInt8), D.length = E.length → allDig D → allDig E → val D = val E → D = E
  | [], [], _, _, _, _ => rfl
  | [], _ :: _, h, _, _, _ => by simp at h
  | _ :: _, [], h, _, _, _ => by simp at h
  | b :: D, c :: E, hl, hD, hE, hv => by
    obtain ⟨hb, hD'⟩ := allDig_cons hD
    obtain ⟨hc, hE'⟩ := allDig_cons hE
    have hl' : D.length = E.length := by simpa using hl
    have h1 := isDig_cases hb
    have h2 := isDig_cases hc
    have hd := val_lt D hD'
    have he := val_lt E hE'
    rw [val_cons, val_cons, hl'] at hv
    rw [hl'] at hd
    have hbc : b.toNat = c.toNat := by
      rcases Nat.lt_trichotomy b.toNat c.toNat with h | h | h
      · have h3 : (b.toNat - 48 + 1) * 10 ^ E.length ≤ (c.toNat - 48) * 10 ^ E.length := Nat.mul_le_mul_right _ (by omega)
        rw [Nat.add_mul, Nat.one_mul] at h3
        omega
      · exact h
      · have h3 : (c.toNat - 48 + 1) * 10 ^ E.length ≤ (b.toNat - 48) * 10 ^ E.length := Nat.mul_le_mul_right _ (by omega)
        rw [Nat.add_mul, Nat.one_mul] at h3
        omega
    rw [hbc] at hv
    have := val_inj D E hl' hD' hE' (by omega)
    rw [this, UInt8.toNat_inj.1 hbc]

/-- The decimal of u: digits, no leading zero, the number is u. -/
structure IsDec (D : List UInt8) (u : Nat) : Prop where
  pos : 0 < D.length
  dig : allDig D
  lead : 1 < D.length → (D.getD 0 0).toNat ≠ 48
  num : val D = u

theorem IsDec.low {D : List UInt8} {u : Nat} (h : IsDec D u) (h1 : 1 < D.length) : 10 ^ (D.length - 1) ≤ u := by
  obtain ⟨hp, hd, hl, hn⟩ := h
  match D, hd, hl, hn, h1 with
  | b :: D, hd, hl, hn, h1 =>
    rw [← hn]
    have := val_ge (D := D) (allDig_cons hd).1 (by simpa using hl h1)
    simpa using this
theorem IsDec.high {D : List UInt8} {u : Nat} (h : IsDec D u) : u < 10 ^ D.length := by
  rw [← h.num]; exact val_lt D h.dig

theorem pow_mono {a b : Nat} (h : a ≤ b) : 10 ^ a ≤ 10 ^ b := Nat.pow_le_pow_right (by omega) h

/-- Shorter text, smaller number. -/
theorem IsDec.shorter {D E : List UInt8} {u v : Nat} (hD : IsDec D u) (hE : IsDec E v) (h : D.length < E.length) : u < v := by
  have h1 := hD.high
  have h2 := hE.low (by have := hD.pos; omega)
  have h3 : 10 ^ D.length ≤ 10 ^ (E.length - 1) := pow_mono (by omega)
  omega

theorem IsDec.unique {D E : List UInt8} {u : Nat} (hD : IsDec D u) (hE : IsDec E u) : D = E := by
  rcases Nat.lt_trichotomy D.length E.length with h | h | h
  · have := hD.shorter hE h; omega
  · exact val_inj D E h hD.dig hE.dig (hD.num.trans hE.num.symm)
  · have := hE.shorter hD h; omega

/-- What zzDigitsAtMost answers. -/
def atMost (D E : List UInt8) : Bool := if D.length = E.length then lexLe D E else decide (D.length < E.length)
theorem atMost_val {D E : List UInt8} {u v : Nat} (hD : IsDec D u) (hE : IsDec E v) : atMost D E = decide (u ≤ v) := by
  unfold atMost
  by_cases h : D.length = E.length
  · rw [if_pos h, lexLe_val D E h hD.dig hE.dig, hD.num, hE.num]
  · rw [if_neg h]
    rcases Nat.lt_or_gt_of_ne h with h' | h'
    · have := hD.shorter hE h'
      rw [decide_eq_true h', decide_eq_true (by omega)]
    · have := hE.shorter hD h'
      rw [decide_eq_false (by omega), decide_eq_false (by omega)]

/-! ### uint64's reckoning of nineteen digits -/
theorem wrap_u64 (n : Int) : IntKind.u64.wrap n = n % 18446744073709551616 := by simp [IntKind.wrap, IntKind.bits, IntKind.signed]

theorem foldl_uval : ∀ (D : List UInt8) (u : Nat), allDig D → u * 10 ^ D.length + val D < 18446744073709551616 → D.foldl ustep (u : Int) = ((u * 10 ^ D.length + val D : Nat) : Int)
  | [], u, _, _ => by simp [val_nil]
  | b :: D, u, h, hlt => by
    obtain ⟨hb, hD⟩ := allDig_cons h
    have h1 := isDig_cases hb
    rw [val_cons, List.length_cons, Nat.pow_succ] at hlt
    have hp : 1 ≤ 10 ^ D.length := Nat.pow_pos (by omega)
    have e1 : u * (10 ^ D.length * 10) + ((b.toNat - 48) * 10 ^ D.length + val D) = (u * 10 + (b.toNat - 48)) * 10 ^ D.length + val D := by
      rw [Nat.add_mul, Nat.mul_assoc, Nat.mul_comm 10, Nat.add_assoc]
    rw [e1] at hlt
    have hs : u * 10 + (b.toNat - 48) < 18446744073709551616 := by
      have : (u * 10 + (b.toNat - 48)) * 1 ≤ (u * 10 + (b.toNat - 48)) * 10 ^ D.length := Nat.mul_le_mul_left _ hp
      omega
    have e2 : ustep (u : Int) b = ((u * 10 + (b.toNat - 48) : Nat) : Int) := by
      unfold ustep
      rw [wrap_u64, wrap_u64]
      omega
    rw [List.foldl_cons, e2, foldl_uval D _ hD hlt, val_cons, List.length_cons, Nat.pow_succ, e1]

theorem uval_val {D : List UInt8} (h : allDig D) (hl : D.length ≤ 19) : uval D = (val D : Int) := by
  have h1 := val_lt D h
  have h2 : 10 ^ D.length ≤ 10 ^ 19 := pow_mono hl
  have h3 : (10 : Nat) ^ 19 < 18446744073709551616 := by decide
  have := foldl_uval D 0 h (by omega)
  simpa [uval] using this
end Go.Proofs.Qxb6604023a
