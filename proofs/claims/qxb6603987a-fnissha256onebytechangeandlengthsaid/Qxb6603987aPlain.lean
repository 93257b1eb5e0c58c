/- Plain mathematics of this seat: lower-case hexadecimal bytes, the hexadecimal form of a digest. Nothing of the program is imported. -/
namespace Go.Proofs.Qxb6603987a

/-- A lower-case hexadecimal digit, as a number. -/
def hexN (c : Nat) : Bool := (decide (48 ≤ c) && decide (c ≤ 57)) || (decide (97 ≤ c) && decide (c ≤ 102))

theorem hexN_true {c : Nat} (h : (48 ≤ c ∧ c ≤ 57) ∨ (97 ≤ c ∧ c ≤ 102)) : hexN c = true := by simp [hexN]; omega
theorem hexN_false {c : Nat} (h : ¬ ((48 ≤ c ∧ c ≤ 57) ∨ (97 ≤ c ∧ c ≤ 102))) : hexN c = false := by
  cases e : hexN c with
  | false => rfl
  | true => simp [hexN] at e; omega
theorem hexN_cases {c : Nat} (h : hexN c = true) : (48 ≤ c ∧ c ≤ 57) ∨ (97 ≤ c ∧ c ≤ 102) := by simp [hexN] at h; omega

/-- Sixty-four lower-case hexadecimal bytes. -/
def shaL (l : List UInt8) : Bool := decide (l.length = 64) && l.all (fun b => hexN b.toNat)
def shaB (s : ByteArray) : Bool := shaL s.data.toList

theorem shaB_size {s : ByteArray} (h : s.size ≠ 64) : shaB s = false := by
  have e : s.data.toList.length = s.size := by simp
  simp [shaB, shaL, h]

theorem shaB_bad {s : ByteArray} {t : Nat} (ht : t < s.size) (h : hexN (s[t]'ht).toNat = false) : shaB s = false := by
  have hm : s[t]'ht ∈ s.data.toList := by
    have : (s[t]'ht) = s.data[t]'ht := rfl
    rw [this]; simp
  cases e : shaB s with
  | false => rfl
  | true =>
    simp only [shaB, shaL, Bool.and_eq_true, List.all_eq_true] at e
    have := e.2 _ hm
    rw [h] at this
    cases this

theorem shaB_good {s : ByteArray} (hs : s.size = 64) (h : ∀ t (ht : t < s.size), hexN (s[t]'ht).toNat = true) : shaB s = true := by
  have e : s.data.toList.length = s.size := by simp
  simp only [shaB, shaL, Bool.and_eq_true, List.all_eq_true, decide_eq_true_eq]
  refine ⟨by omega, fun b hb => ?_⟩
  obtain ⟨t, ht, rfl⟩ := List.getElem_of_mem hb
  have h2 := h t (by simpa using ht)
  have e2 : s.data.toList[t]'ht = s[t]'(by simpa using ht) := by simp; rfl
  rw [e2]
  exact h2

/-- How many lower-case hexadecimal bytes. -/
def cntL (l : List UInt8) : Nat := l.countP (fun b => hexN b.toNat)
theorem cntL_le (l : List UInt8) : cntL l ≤ l.length := List.countP_le_length
theorem cntL_all (l : List UInt8) (h : l.length = 64) : shaL l = decide (cntL l = l.length) := by
  unfold shaL cntL
  rw [Bool.eq_iff_iff]
  simp only [h, decide_true, Bool.true_and, List.all_eq_true, decide_eq_true_eq]
  rw [← h, List.countP_eq_length]
theorem cntL_snoc (s : ByteArray) (k : Nat) (h : k < s.size) : cntL (s.data.toList.take (k + 1)) = cntL (s.data.toList.take k) + (if hexN (s[k]'h).toNat = true then 1 else 0) := by
  rw [List.take_succ_eq_append_getElem (by simpa using h)]
  unfold cntL
  rw [List.countP_append]
  have : s.data.toList[k]'(by simpa using h) = s[k]'h := by simp; rfl
  rw [this, List.countP_singleton]
end Go.Proofs.Qxb6603987a
