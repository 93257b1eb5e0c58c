/- zzUtoa (function 9): the decimal of its number. -/
import Derived.Test.Qxb6604023aInt2
import Derived.Test.Qxb6604023aDec
namespace Go.Proofs.Qxb6604023a
open Go.ChangeShapes Go.WideShapes Go.ChangeAt Go.RowKit

theorem Try.arrayLen32 : Try.prog.arrayLen 32 = 20 := by kernel_rfl
theorem Try.elem32 : Try.prog.elem 32 = 5 := by kernel_rfl

/-- 'b[m:]' of the array of twenty. -/
theorem slice20 (g m : Nat) (hm : m < 20) (w : World) : (Instr.sliceAt 32 (.pointer (some ⟨g, 0, none⟩)) (some (.int .i64 (m : Int))) none none).run Try.prog w = .ok (.slice (some ⟨g, m, none⟩) (20 - m) (20 - m)) w := by
  have ht : Try.prog.underlying 32 = some (.array (Try.prog.arrayLen 32) (Try.prog.elem 32)) := by rw [Try.arrayLen32, Try.elem32]; exact Try.underlying32
  rw [run_sliceAt_array_l w 32 ⟨g, 0, none⟩ ht .i64 (m : Int) (by omega) (by rw [Try.arrayLen32]; omega), Try.arrayLen32, Try.elem32]
  obtain ⟨i0, hi, hz0, hz1, hz2⟩ := info_parts Try.info5
  simp [sizeOf, typeInfo, hi, hz1, slicedAt, show ¬ 20 = m by omega, Addr.add_lit]

/-- 'string(b[m:])'. -/
theorem str20 {w : World} {g m : Nat} {A : Array Value} {E : List UInt8} (hg : w.heap[g]? = some (.cells A 32 (0, 0))) (hA : A.toList.drop m = rowB E) (hm : E.length = 20 - m) :
    (convert 22 9 (.slice (some ⟨g, m, none⟩) (20 - m) (20 - m))).run Try.prog w = .ok (.string ⟨E.toArray⟩) w := by
  have := run_convert_bytes_back (P := Try.prog) w 22 9 5 ⟨g, m, none⟩ (20 - m) E Try.underlying22 Try.underlying5 Try.underlying9 (fun j hj => by
    rw [Addr.add_lit, cell_of_row w g (m + j) A 32 (0, 0) hg]
    have h1 := rowB_at E j hj
    rw [← hA, List.getElem?_drop] at h1
    rw [← Array.getElem?_toList, h1]
    simp [List.getD, hj])
  rw [hm] at this
  exact this

theorem ten_pow (k v u : Nat) (hv : 0 < v) (h : v * 10 ^ k ≤ u) (hu : u < 18446744073709551616) : k ≤ 19 := by
  rcases Nat.lt_or_ge 19 k with h1 | h1
  · have h2 : (10 : Nat) ^ 20 ≤ 10 ^ k := pow_mono (by omega)
    have h3 : 1 * 10 ^ k ≤ v * 10 ^ k := Nat.mul_le_mul_right _ hv
    have h4 : (18446744073709551616 : Nat) < 10 ^ 20 := by decide
    omega
  · exact h1

theorem dig_byte (v : Nat) : isDig (UInt8.ofNat (48 + v % 10)) = true ∧ (UInt8.ofNat (48 + v % 10)).toNat = 48 + v % 10 := by
  have h : (UInt8.ofNat (48 + v % 10)).toNat = 48 + v % 10 := by rw [UInt8.toNat_ofNat']; omega
  exact ⟨isDig_true (by rw [h]; omega), h⟩

theorem drop_set (A : Array Value) (m : Nat) (v : Value) (hm : m < A.size) : (A.setIfInBounds m v).toList.drop m = v :: A.toList.drop (m + 1) := by
  rw [Array.toList_setIfInBounds, List.drop_eq_getElem_cons (by simpa using hm)]
  congr 1
  · simp
  · rw [List.drop_set_of_lt (by omega)]

/-- One digit more in front. -/
theorem step_num (v u : Nat) (E : List UInt8) (h : u = v * 10 ^ E.length + val E) : u = v / 10 * 10 ^ (E.length + 1) + val (UInt8.ofNat (48 + v % 10) :: E) := by
  rw [val_cons, (dig_byte v).2, h]
  have e : v = v / 10 * 10 + v % 10 := by omega
  have h1 : v * 10 ^ E.length = (v / 10 * 10 + v % 10) * 10 ^ E.length := by rw [← e]
  rw [h1, Nat.add_mul, Nat.pow_succ, Nat.mul_comm (10 ^ E.length) 10, ← Nat.mul_assoc, show 48 + v % 10 - 48 = v % 10 by omega, Nat.add_assoc]

set_option maxHeartbeats 1600000 in
theorem utoa9 (u : Nat) (hu : u < 18446744073709551616) (w : World) :
    Calls Try.prog 9 #[.int .u64 (u : Int)] w fun e w' => ∃ E : List UInt8, e = .returned (.string ⟨E.toArray⟩) ∧ IsDec E u ∧ Below w.heap.size w w' := by
  go_enter Try.func9, Try.ntmps9
  go_wp2
  go_loopw [0, 4] (fun x p wr => ∃ (m v : Nat) (E : List UInt8) (A : Array Value), m ≤ 19 ∧ x = .int .u64 (v : Int) ∧ p = .int .i64 ((m : Int) + 1) ∧ E.length = 19 - m ∧ v ≤ u ∧ u = v * 10 ^ E.length + val E ∧ allDig E ∧ (0 < E.length → 0 < v) ∧
      wr.heap[w.heap.size]? = some (.cells A 32 (0, 0)) ∧ A.size = 20 ∧ A.toList.drop (m + 1) = rowB E ∧ Below w.heap.size w wr)
    (fun x p wr => (intOf p).toNat)
  case atStart => exact ⟨19, u, [], _, by omega, rfl, rfl, rfl, Nat.le_refl _, by simp [val_nil], fun t h => by simp at h, fun h => by simp at h, heap_alloc_new _ _, rfl, rfl, (Below.refl _ _).alloc (Nat.le_refl _) _⟩
  case round =>
    obtain ⟨m, v, E, A, hm, rfl, rfl, hEl, hvu, hnum, hdig, hpos, hA, hAs, hAd, hnx⟩ := hrel
    have hcell : ∃ old, wr.cell? ⟨w.heap.size, m, none⟩ = some old := ⟨_, by rw [cell_of_row wr _ m A 32 (0, 0) hA]; exact Array.getElem?_eq_getElem (by omega)⟩
    obtain ⟨old, hcell⟩ := hcell
    have hfr := frozen_of_row wr w.heap.size m A 32 hA
    obtain ⟨d, hd⟩ : ∃ d : UInt8, d = UInt8.ofNat (48 + v % 10) := ⟨_, rfl⟩
    have hdn : d.toNat = 48 + v % 10 := by rw [hd]; exact (dig_byte v).2
    have H1 : Hid (u = v / 10 * 10 ^ (E.length + 1) + val (d :: E)) := hidIt (by rw [hd]; exact step_num v u E hnum)
    have H2 : Hid (allDig (d :: E)) := hidIt (allDig_mk (by rw [hd]; exact (dig_byte v).1) hdig)
    have hdi : (d.toNat : Int) = 48 + (v : Int) % 10 := by omega
    have H3 : Hid ((wr.setCell ⟨w.heap.size, m, none⟩ (.int .u8 (48 + (v : Int) % 10))).heap[w.heap.size]? = some (.cells (A.setIfInBounds m (.int .u8 (48 + (v : Int) % 10))) 32 (0, 0))) := hidIt (heap_setCell_same wr _ m A 32 _ hA)
    have H4 : Hid ((A.setIfInBounds m (.int .u8 (48 + (v : Int) % 10))).toList.drop m = rowB (d :: E)) := hidIt (by rw [drop_set A m _ (by omega), hAd, ← hdi]; rfl)
    have H5 : Hid (Below w.heap.size w (wr.setCell ⟨w.heap.size, m, none⟩ (.int .u8 (48 + (v : Int) % 10)))) := hidIt (hnx.setCell (Nat.le_refl _) _)
    have HDN := hidIt hdn
    have HEL := hidIt hEl
    have HP := hidIt hpos
    have HAS := hidIt hAs
    clear hnum hdig hpos hA hAs hAd hnx hdn hd hEl hdi
    by_cases hv : v / 10 = 0
    · have hsl := slice20 w.heap.size m (by omega)
      have hst := str20 H3.out H4.out (by simp [HEL.out]; omega)
      have hv' : ((v : Int) / 10 == 0) = true := by simp; omega
      go_wp2
      go_ret
      refine ⟨d :: E, rfl, ⟨by simp, H2.out, fun hl => ?_, ?_⟩, H5.out⟩
      · have h1 : 0 < E.length := by simpa using hl
        have h2 := HP.out h1
        have h3 := HDN.out
        simp
        omega
      · have h1 := H1.out
        rw [hv, Nat.zero_mul, Nat.zero_add] at h1
        exact h1.symm
    · have hv' : ((v : Int) / 10 == 0) = false := by simp; omega
      go_wp2
      have hk : E.length + 1 ≤ 19 := ten_pow (E.length + 1) (v / 10) u (by omega) (by have := H1.out; omega) hu
      have hm1 : 1 ≤ m := by have := HEL.out; omega
      go_roundw
      case rel => exact ⟨m - 1, v / 10, d :: E, _, by omega, by go_num, by go_num, by simp [HEL.out]; omega, by omega, by simpa using H1.out, H2.out, fun _ => by omega, H3.out, by simpa using HAS.out, by rw [show m - 1 + 1 = m by omega]; exact H4.out, H5.out⟩
      case measure => simp [intOf]

/-! ### zzItoa -/
theorem IsDec.len {E : List UInt8} {u : Nat} (h : IsDec E u) (hu : u < 18446744073709551616) : E.length ≤ 20 := by
  rcases Nat.lt_or_ge 1 E.length with h1 | h1
  · have h2 := h.low h1
    have h3 := ten_pow (E.length - 1) 1 u (by omega) (by omega) hu
    omega
  · omega

/-- A minus sign ahead. -/
theorem minus_add (E : List UInt8) (hE : E.length ≤ 1048576) (w : World) : (Op.stringOp .add ⟨#[45]⟩ ⟨E.toArray⟩).run Try.prog w = .ok (.string ⟨(45 :: E).toArray⟩) w := by
  have := run_string_add_lists (P := Try.prog) w [45] E (by simp) (by omega)
  simpa using this

set_option maxHeartbeats 800000 in
theorem itoa_pos (v : Nat) (hv : v ≤ 9223372036854775807) (w : World) :
    Calls Try.prog 11 #[.int .i64 (v : Int)] w fun e w' => ∃ E : List UInt8, e = .returned (.string ⟨E.toArray⟩) ∧ IsDec E v ∧ Below w.heap.size w w' := by
  go_enter Try.func11, Try.ntmps11
  go_wp2_with fail
  refine (utoa9 v (by omega) w).mono ?_
  rintro e w1 ⟨E, rfl, hE, hb⟩
  have HE := hidIt hE
  have Hb := hidIt hb
  clear hE hb
  go_wp2_with fail
  go_ret
  exact ⟨E, rfl, HE.out, Hb.out⟩

set_option maxHeartbeats 800000 in
theorem itoa_neg (v : Nat) (h1 : 1 ≤ v) (hv : v ≤ 9223372036854775808) (w : World) :
    Calls Try.prog 11 #[.int .i64 (-(v : Int))] w fun e w' => ∃ E : List UInt8, e = .returned (.string ⟨(45 :: E).toArray⟩) ∧ IsDec E v ∧ Below w.heap.size w w' := by
  go_enter Try.func11, Try.ntmps11
  go_wp2_with fail
  rw [show (-(-(v : Int) + 1) + 1) = (v : Int) from by omega]
  refine (utoa9 v (by omega) w).mono ?_
  rintro e w1 ⟨E, rfl, hE, hb⟩
  have hadd := minus_add E (by have := hE.len (by omega); omega) w1
  have HE := hidIt hE
  have Hb := hidIt hb
  clear hE hb
  go_wp2_with fail
  go_ret
  exact ⟨E, rfl, HE.out, Hb.out⟩

/-! ### zzIsDigit -/
theorem dig_yes (c : Nat) (h1 : 48 ≤ c) (h2 : c ≤ 57) (w : World) : Calls Try.prog 8 #[.int .u8 (c : Int)] w fun e w' => e = .returned (.bool true) ∧ w = w' := by
  have d0 : decide ((48 : Int) ≤ (c : Int)) = true := by simp; omega
  have d1 : decide ((c : Int) ≤ 57) = true := by simp; omega
  go_enter Try.func8, Try.ntmps8
  go_wp2
  go_ret
  exact ⟨rfl, rfl⟩
theorem dig_no (c : Nat) (h : ¬ (48 ≤ c ∧ c ≤ 57)) (w : World) : Calls Try.prog 8 #[.int .u8 (c : Int)] w fun e w' => e = .returned (.bool false) ∧ w = w' := by
  by_cases h1 : 48 ≤ c
  · have h2 : 57 < c := by omega
    have d0 : decide ((48 : Int) ≤ (c : Int)) = true := by simp; omega
    have d1 : decide ((c : Int) ≤ 57) = false := by simp; omega
    clear h
    go_enter Try.func8, Try.ntmps8
    go_wp2
    go_ret
    exact ⟨rfl, rfl⟩
  · clear h
    go_enter Try.func8, Try.ntmps8
    go_wp2
    go_ret
    exact ⟨rfl, rfl⟩
end Go.Proofs.Qxb6604023a
