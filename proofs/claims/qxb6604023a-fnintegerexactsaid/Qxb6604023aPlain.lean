/- What 'integer' computes, plainly: of the bytes from its offset on. -/
import Derived.RowKit
import Derived.Laws.BitsLemmas
namespace Go.Proofs.Qxb6604023a
open Go.RowKit

def isDig (b : UInt8) : Bool := decide (48 ≤ b.toNat) && decide (b.toNat ≤ 57)
theorem isDig_true {b : UInt8} (h : 48 ≤ b.toNat ∧ b.toNat ≤ 57) : isDig b = true := by simp [isDig, h.1, h.2]
theorem isDig_false {b : UInt8} (h : ¬ (48 ≤ b.toNat ∧ b.toNat ≤ 57)) : isDig b = false := by
  cases e : isDig b with
  | false => rfl
  | true => simp [isDig] at e; exact absurd e h
theorem isDig_cases {b : UInt8} (h : isDig b = true) : 48 ≤ b.toNat ∧ b.toNat ≤ 57 := by simpa [isDig] using h

/-- One digit more. -/
def ustep (u : Int) (b : UInt8) : Int := IntKind.u64.wrap (IntKind.u64.wrap (u * 10) + ((b.toNat : Int) - 48))
/-- The digits' number, as uint64 reckons it. -/
def uval (D : List UInt8) : Int := D.foldl ustep 0
theorem uval_snoc (D : List UInt8) (b : UInt8) : uval (D ++ [b]) = ustep (uval D) b := by simp [uval]

/-- The answer for a sign and a run of digits. -/
def fin (neg : Bool) (D : List UInt8) (top : Int) : Option Int :=
  if D.length = 0 ∨ 19 < D.length ∨ (1 < D.length ∧ (D.getD 0 0).toNat = 48) then none
  else if neg = false then (if uval D ≤ top then some (wrap64 (uval D)) else none)
  else (if uval D ≤ IntKind.u64.wrap (top + 1) then some (wrap64 (wrap64 (-(wrap64 (IntKind.u64.wrap (uval D - 1)))) - 1)) else none)

/-- Is there a sign? -/
def isNeg (t : List UInt8) : Bool := decide ((t.getD 0 0).toNat = 45)
def skip (t : List UInt8) : Nat := if isNeg t then 1 else 0
/-- The run of digits behind the sign. -/
def run (t : List UInt8) : List UInt8 := (t.drop (skip t)).takeWhile isDig
/-- The value and how many bytes it took. -/
def core (t : List UInt8) (top : Int) : Option (Int × Nat) := (fin (isNeg t) (run t) top).map fun v => (v, skip t + (run t).length)
/-- What 'integer' hands back at offset i. -/
def res (t : List UInt8) (i : Nat) (top : Int) : Int × Int :=
  match core t top with
  | none => (0, -1)
  | some (v, r) => (v, (i : Int) + r)

theorem res_none {t : List UInt8} {i : Nat} {top : Int} (h : fin (isNeg t) (run t) top = none) : res t i top = (0, -1) := by simp [res, core, h]
theorem res_some {t : List UInt8} {i : Nat} {top v : Int} (h : fin (isNeg t) (run t) top = some v) : res t i top = (v, (i : Int) + (skip t + (run t).length : Nat)) := by simp [res, core, h]
theorem core_nil (top : Int) : core [] top = none := by simp [core, fin, run]

/-! ### Locality -/
theorem takeWhile_take (p : UInt8 → Bool) : ∀ (l : List UInt8) (n : Nat), (l.takeWhile p).length ≤ n → (l.take n).takeWhile p = l.takeWhile p
  | [], _, _ => by simp
  | b :: l, 0, h => by
    cases e : p b with
    | true => simp [e] at h
    | false => simp [e]
  | b :: l, n + 1, h => by
    cases e : p b with
    | true =>
      simp only [List.takeWhile_cons, e, if_true, List.length_cons] at h
      simp only [List.take_succ_cons, List.takeWhile_cons, e, if_true]
      rw [takeWhile_take p l n (by omega)]
    | false => simp [e]

theorem core_some {t : List UInt8} {top v : Int} {r : Nat} (h : core t top = some (v, r)) : fin (isNeg t) (run t) top = some v ∧ r = skip t + (run t).length ∧ 1 ≤ (run t).length ∧ r ≤ t.length := by
  simp only [core, Option.map_eq_some_iff, Prod.mk.injEq] at h
  obtain ⟨v', h1, rfl, rfl⟩ := h
  refine ⟨h1, rfl, ?_, ?_⟩
  · unfold fin at h1
    split at h1
    · cases h1
    · omega
  · have h2 : (run t).length ≤ (t.drop (skip t)).length := (List.takeWhile_sublist _).length_le
    rw [List.length_drop] at h2
    have h3 : 1 ≤ (run t).length := by
      unfold fin at h1
      split at h1
      · cases h1
      · omega
    omega

theorem core_cut {t : List UInt8} {top v : Int} {r : Nat} (h : core t top = some (v, r)) : core (t.take r) top = some (v, r) := by
  obtain ⟨h1, h2, h3, h4⟩ := core_some h
  have hg : (t.take r).getD 0 0 = t.getD 0 0 := by
    rw [List.getD_eq_getElem?_getD, List.getElem?_take, if_pos (by omega), ← List.getD_eq_getElem?_getD]
  have hn : isNeg (t.take r) = isNeg t := by unfold isNeg; rw [hg]
  have hs : skip (t.take r) = skip t := by unfold skip; rw [hn]
  have hr : run (t.take r) = run t := by
    unfold run
    rw [hs, List.drop_take]
    apply takeWhile_take
    have : (run t).length ≤ r - skip t := by omega
    exact this
  simp only [core, hn, hs, hr, h1, Option.map_some]
  rw [← h2]

/-! ### What the walk's ways come to -/
theorem takeWhile_eq_take : ∀ (t : List UInt8) (m : Nat), m ≤ t.length → (∀ j, j < m → isDig (t.getD j 0) = true) → (m = t.length ∨ isDig (t.getD m 0) = false) → t.takeWhile isDig = t.take m
  | [], m, h, _, _ => by simp
  | b :: t, 0, _, _, h2 => by
    rcases h2 with h2 | h2
    · simp at h2
    · have : isDig b = false := by simpa using h2
      simp [this]
  | b :: t, m + 1, h, h1, h2 => by
    have hb : isDig b = true := by simpa using h1 0 (by omega)
    have := takeWhile_eq_take t m (by simpa using h) (fun j hj => by simpa using h1 (j + 1) (by omega)) (by simpa using h2)
    simp [hb, this]

theorem getD_drop (l : List UInt8) (s j : Nat) : (l.drop s).getD j 0 = l.getD (s + j) 0 := by
  rw [List.getD_eq_getElem?_getD, List.getElem?_drop, ← List.getD_eq_getElem?_getD]

theorem run_eq {l : List UInt8} {i s k : Nat} (hs : s = i + skip (l.drop i)) (hk : s ≤ k) (hkn : k ≤ l.length) (hall : ∀ t, s ≤ t → t < k → isDig (l.getD t 0) = true) (hend : k = l.length ∨ isDig (l.getD k 0) = false) :
    run (l.drop i) = (l.drop s).take (k - s) := by
  unfold run
  rw [List.drop_drop, ← hs]
  apply takeWhile_eq_take
  · rw [List.length_drop]; omega
  · intro j hj
    rw [getD_drop]
    exact hall _ (by omega) (by omega)
  · rw [getD_drop, show s + (k - s) = k by omega]
    rcases hend with h | h
    · left; rw [List.length_drop]; omega
    · exact .inr h

theorem skip_pos {t : List UInt8} (h : isNeg t = false) : skip t = 0 := by simp [skip, h]
theorem skip_neg {t : List UInt8} (h : isNeg t = true) : skip t = 1 := by simp [skip, h]

section
variable {l : List UInt8} {i s k : Nat} {top u : Int} {c0 : Nat}

theorem lead (hc0 : (l.getD s 0).toNat = c0) (h : s < k) : ((((l.drop s).take (k - s)).getD 0 0).toNat = c0) := by
  rw [List.getD_eq_getElem?_getD, List.getElem?_take, if_pos (by omega), ← List.getD_eq_getElem?_getD, getD_drop, Nat.add_zero]
  exact hc0
theorem len_run (hk : k ≤ l.length) : ((l.drop s).take (k - s)).length = k - s := by
  rw [List.length_take, List.length_drop]; omega

theorem res_no_pos (hneg : isNeg (l.drop i) = false) (hr : run (l.drop i) = (l.drop s).take (k - s)) (hk : k ≤ l.length) (hu : uval ((l.drop s).take (k - s)) = u) (hc0 : (l.getD s 0).toNat = c0)
    (h : k - s = 0 ∨ 19 < k - s ∨ (1 < k - s ∧ c0 = 48) ∨ top < u) : res (l.drop i) i top = (0, -1) := by
  apply res_none
  rw [hneg, hr]
  unfold fin
  rw [len_run hk]
  by_cases h0 : k - s = 0 ∨ 19 < k - s ∨ (1 < k - s ∧ ((((l.drop s).take (k - s)).getD 0 0).toNat = 48))
  · rw [if_pos h0]
  · rw [if_neg h0, if_pos rfl, hu, if_neg]
    rcases h with h | h | h | h
    · exact absurd (.inl h) h0
    · exact absurd (.inr (.inl h)) h0
    · exact absurd (.inr (.inr ⟨h.1, by rw [lead hc0 (by omega)]; exact h.2⟩)) h0
    · omega
theorem res_yes_pos (hneg : isNeg (l.drop i) = false) (hr : run (l.drop i) = (l.drop s).take (k - s)) (hs : s = i + skip (l.drop i)) (hk : k ≤ l.length) (hu : uval ((l.drop s).take (k - s)) = u) (hc0 : (l.getD s 0).toNat = c0)
    (h : 0 < k - s ∧ k - s ≤ 19 ∧ (k - s ≤ 1 ∨ c0 ≠ 48)) (ht : u ≤ top) : res (l.drop i) i top = (wrap64 u, (k : Int)) := by
  have hf : fin (isNeg (l.drop i)) (run (l.drop i)) top = some (wrap64 u) := by
    rw [hneg, hr]
    unfold fin
    rw [len_run hk, if_neg, if_pos rfl, hu, if_pos ht]
    rw [lead hc0 (by omega)]
    omega
  rw [res_some hf, hr, len_run hk]
  congr 1
  omega
theorem res_no_neg (hneg : isNeg (l.drop i) = true) (hr : run (l.drop i) = (l.drop s).take (k - s)) (hk : k ≤ l.length) (hu : uval ((l.drop s).take (k - s)) = u) (hc0 : (l.getD s 0).toNat = c0) {T : Int} (hT : IntKind.u64.wrap (top + 1) = T)
    (h : k - s = 0 ∨ 19 < k - s ∨ (1 < k - s ∧ c0 = 48) ∨ T < u) : res (l.drop i) i top = (0, -1) := by
  apply res_none
  rw [hneg, hr]
  unfold fin
  rw [len_run hk]
  by_cases h0 : k - s = 0 ∨ 19 < k - s ∨ (1 < k - s ∧ ((((l.drop s).take (k - s)).getD 0 0).toNat = 48))
  · rw [if_pos h0]
  · rw [if_neg h0, if_neg (by simp), hu, hT, if_neg]
    rcases h with h | h | h | h
    · exact absurd (.inl h) h0
    · exact absurd (.inr (.inl h)) h0
    · exact absurd (.inr (.inr ⟨h.1, by rw [lead hc0 (by omega)]; exact h.2⟩)) h0
    · omega
theorem res_yes_neg (hneg : isNeg (l.drop i) = true) (hr : run (l.drop i) = (l.drop s).take (k - s)) (hs : s = i + skip (l.drop i)) (hk : k ≤ l.length) (hu : uval ((l.drop s).take (k - s)) = u) (hc0 : (l.getD s 0).toNat = c0) {T : Int} (hT : IntKind.u64.wrap (top + 1) = T)
    (h : 0 < k - s ∧ k - s ≤ 19 ∧ (k - s ≤ 1 ∨ c0 ≠ 48)) (ht : u ≤ T) : res (l.drop i) i top = (wrap64 (wrap64 (-(wrap64 (IntKind.u64.wrap (u - 1)))) - 1), (k : Int)) := by
  have hf : fin (isNeg (l.drop i)) (run (l.drop i)) top = some (wrap64 (wrap64 (-(wrap64 (IntKind.u64.wrap (u - 1)))) - 1)) := by
    rw [hneg, hr]
    unfold fin
    rw [len_run hk, if_neg, if_neg (by simp), hu, hT, if_pos ht]
    rw [lead hc0 (by omega)]
    omega
  rw [res_some hf, hr, len_run hk]
  congr 1
  omega
end
end Go.Proofs.Qxb6604023a
