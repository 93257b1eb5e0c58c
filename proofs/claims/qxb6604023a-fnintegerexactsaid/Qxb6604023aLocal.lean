/- The walk of FnIntegerLocal (function 4). -/
import Derived.Test.Qxb6604023aInt2
namespace Go.Proofs.Qxb6604023a
open Go.ChangeShapes Go.WideShapes Go.ChangeAt Go.RowKit

theorem int7_at (ao : Option Addr) (n cap : Nat) (l : List UInt8) (i : Nat) (top : Int) (w : World) (hn : n ≤ 1048576) (hl : l.length = n) (hsrc : Src w ao l) (v j : Int) (h : res (l.drop i) i top = (v, j)) :
    Calls Try.prog 7 #[.slice ao n cap, .int .i64 (i : Int), .int .u64 top] w fun e w' => e = .returned (.tuple #[.int .i64 v, .int .i64 j]) ∧ w = w' := by
  have := int7 ao n cap l i top w hn hl hsrc
  rw [h] at this
  exact this

theorem loc_long (a : Option Addr) (n cap : Nat) (i top : Int) (w : World) (h : ¬ n ≤ 1048576) :
    Calls Try.prog 4 #[.slice a n cap, .int .i64 i, .int .u64 top] w fun e w' => e = .returned (.bool true) ∧ Below w.heap.size w w' := by
  go_enter Try.func4, Try.ntmps4
  go_wp2_with (go_at_call 12; refine (zz12_no _ _ _ _ _ _ h).mono ?_; rintro e w' ⟨rfl, rfl⟩)
  go_ret
  exact ⟨rfl, Below.refl _ _⟩

theorem loc_out (a : Option Addr) (n cap : Nat) (i top : Int) (w : World) (h : n ≤ 1048576) (hi : i < 0 ∨ (n : Int) < i) :
    Calls Try.prog 4 #[.slice a n cap, .int .i64 i, .int .u64 top] w fun e w' => e = .returned (.bool true) ∧ Below w.heap.size w w' := by
  by_cases h0 : i < 0
  · go_enter Try.func4, Try.ntmps4
    go_wp2_with (go_at_call 12; refine (zz12_yes _ _ _ _ _ _ h).mono ?_; rintro e w' ⟨rfl, rfl⟩)
    go_ret
    exact ⟨rfl, Below.refl _ _⟩
  · have h1 : (n : Int) < i := by omega
    go_enter Try.func4, Try.ntmps4
    go_wp2_with (go_at_call 12; refine (zz12_yes _ _ _ _ _ _ h).mono ?_; rintro e w' ⟨rfl, rfl⟩)
    go_ret
    exact ⟨rfl, Below.refl _ _⟩

theorem src_nil (w : World) (ao : Option Addr) : Src w ao [] := fun h => by simp at h

/-- The nil slice. -/
theorem loc_nil (top : Int) (w : World) :
    Calls Try.prog 4 #[.slice none 0 0, .int .i64 0, .int .u64 top] w fun e w' => e = .returned (.bool true) ∧ Below w.heap.size w w' := by
  go_enter Try.func4, Try.ntmps4
  go_wp2_with (first | (go_at_call 12; refine (zz12_yes _ _ _ _ _ _ (by omega)).mono ?_; rintro e w' ⟨rfl, rfl⟩) | (go_at_call 6; refine (copy6_nil _).mono ?_; rintro e w' ⟨rfl, rfl⟩) | (go_at_call 7; refine (int7_at none 0 0 [] 0 top _ (by omega) rfl (src_nil _ _) 0 (-1) (res_nil 0 top)).mono ?_; rintro e w' ⟨rfl, rfl⟩))
  go_ret
  exact ⟨rfl, Below.refl _ _⟩

/-- The copy's bytes, as every world behind it has them. -/
theorem src_of {w : World} {g n : Nat} {l : List UInt8} (hl : l.length = n) (hc : ∀ t, t < n → w.cell? ⟨g, t, none⟩ = some (.int .u8 ((l.getD t 0).toNat : Int))) : Src w (some ⟨g, 0, none⟩) l :=
  fun _ => ⟨g, 0, rfl, fun t ht => by rw [Nat.zero_add]; exact hc t (by omega)⟩
theorem src_drop {w : World} {g n : Nat} {l : List UInt8} (i : Nat) (hl : l.length = n) (hc : ∀ t, t < n → w.cell? ⟨g, t, none⟩ = some (.int .u8 ((l.getD t 0).toNat : Int))) : Src w (some ⟨g, i, none⟩) (l.drop i) :=
  fun h => ⟨g, i, rfl, fun t ht => by rw [getD_drop]; rw [List.length_drop] at ht; exact hc (i + t) (by omega)⟩
theorem src_take {w : World} {g n : Nat} {l : List UInt8} (j : Nat) (hl : l.length = n) (hc : ∀ t, t < n → w.cell? ⟨g, t, none⟩ = some (.int .u8 ((l.getD t 0).toNat : Int))) : Src w (some ⟨g, 0, none⟩) (l.take j) :=
  fun h => ⟨g, 0, rfl, fun t ht => by
    rw [List.length_take] at ht
    rw [Nat.zero_add, List.getD_eq_getElem?_getD, List.getElem?_take, if_pos (by omega), ← List.getD_eq_getElem?_getD]
    exact hc t (by omega)⟩

set_option maxHeartbeats 1600000 in
theorem loc_end (x : Addr) (n cap : Nat) (l : List UInt8) (top : Int) (w : World) (hn : n ≤ 1048576) (hl : l.length = n) (hc : ∀ t, t < n → w.cell? (x.add t) = some (.int .u8 ((l.getD t 0).toNat : Int))) :
    Calls Try.prog 4 #[.slice (some x) n cap, .int .i64 (n : Int), .int .u64 top] w fun e w' => e = .returned (.bool true) ∧ Below w.heap.size w w' := by
  have HC := hidIt hc
  have HL := hidIt hl
  clear hc hl
  go_enter Try.func4, Try.ntmps4
  go_wp2_with (first | (go_at_call 12; refine (zz12_yes _ _ _ _ _ _ hn).mono ?_; rintro e w' ⟨rfl, rfl⟩))
  refine (copy6_some x n cap l w hn HL.out HC.out).mono ?_
  rintro e w1 ⟨rfl, hc1, hb1⟩
  have HC1 := hidIt hc1
  have Hb1 := hidIt hb1
  clear hc1 hb1
  go_wp2_with fail
  refine (int7_at (some ⟨w.heap.size, 0, none⟩) n n l n top w1 hn HL.out (src_of HL.out HC1.out) 0 (-1) (by rw [List.drop_of_length_le (by rw [HL.out]; exact Nat.le_refl _)]; exact res_nil n top)).mono ?_
  rintro e w2 ⟨rfl, rfl⟩
  go_wp2_with fail
  refine (int7_at (some ⟨w.heap.size, 0, none⟩) 0 0 [] 0 top w1 (by omega) rfl (src_nil _ _) 0 (-1) (res_nil 0 top)).mono ?_
  rintro e w2 ⟨rfl, rfl⟩
  go_wp2_with fail
  go_ret
  exact ⟨rfl, Hb1.out⟩

set_option maxHeartbeats 1600000 in
theorem loc_none (x : Addr) (n cap : Nat) (l : List UInt8) (i : Nat) (top : Int) (w : World) (hn : n ≤ 1048576) (hl : l.length = n) (hi : i < n) (hc : ∀ t, t < n → w.cell? (x.add t) = some (.int .u8 ((l.getD t 0).toNat : Int)))
    (hcore : core (l.drop i) top = none) :
    Calls Try.prog 4 #[.slice (some x) n cap, .int .i64 (i : Int), .int .u64 top] w fun e w' => e = .returned (.bool true) ∧ Below w.heap.size w w' := by
  have HC := hidIt hc
  have HL := hidIt hl
  have HR := hidIt hcore
  clear hc hl hcore
  go_enter Try.func4, Try.ntmps4
  go_wp2_with (first | (go_at_call 12; refine (zz12_yes _ _ _ _ _ _ hn).mono ?_; rintro e w' ⟨rfl, rfl⟩))
  refine (copy6_some x n cap l w hn HL.out HC.out).mono ?_
  rintro e w1 ⟨rfl, hc1, hb1⟩
  have HC1 := hidIt hc1
  have Hb1 := hidIt hb1
  clear hc1 hb1
  go_wp2_with fail
  refine (int7_at (some ⟨w.heap.size, 0, none⟩) n n l i top w1 hn HL.out (src_of HL.out HC1.out) 0 (-1) (by simp [res, HR.out])).mono ?_
  rintro e w2 ⟨rfl, rfl⟩
  go_wp2_with fail
  refine (int7_at (some ⟨w.heap.size, i, none⟩) (n - i) (n - i) (l.drop i) 0 top w1 (by omega) (by rw [List.length_drop, HL.out]) (src_drop i HL.out HC1.out) 0 (-1) (by rw [List.drop_zero]; simp [res, HR.out])).mono ?_
  rintro e w2 ⟨rfl, rfl⟩
  go_wp2_with fail
  go_ret
  exact ⟨rfl, Hb1.out⟩

set_option maxHeartbeats 1600000 in
theorem loc_some (x : Addr) (n cap : Nat) (l : List UInt8) (i : Nat) (top : Int) (w : World) (hn : n ≤ 1048576) (hl : l.length = n) (hi : i < n) (hc : ∀ t, t < n → w.cell? (x.add t) = some (.int .u8 ((l.getD t 0).toNat : Int)))
    (v : Int) (r : Nat) (hcore : core (l.drop i) top = some (v, r)) :
    Calls Try.prog 4 #[.slice (some x) n cap, .int .i64 (i : Int), .int .u64 top] w fun e w' => e = .returned (.bool true) ∧ Below w.heap.size w w' := by
  have hr : i + r ≤ n := by
    have := (core_some hcore).2.2.2
    rw [List.length_drop] at this
    omega
  obtain ⟨J, hJ⟩ : ∃ J : Nat, J = i + r := ⟨_, rfl⟩
  have hJ1 : J ≤ i + r := by omega
  have hJ2 : i + r ≤ J := by omega
  have hJn : J ≤ n := by omega
  have HJ := hidIt hJ
  have HC := hidIt hc
  have HL := hidIt hl
  have HR := hidIt hcore
  clear hc hl hcore hr hJ
  go_enter Try.func4, Try.ntmps4
  go_wp2_with (first | (go_at_call 12; refine (zz12_yes _ _ _ _ _ _ hn).mono ?_; rintro e w' ⟨rfl, rfl⟩))
  refine (copy6_some x n cap l w hn HL.out HC.out).mono ?_
  rintro e w1 ⟨rfl, hc1, hb1⟩
  have HC1 := hidIt hc1
  have Hb1 := hidIt hb1
  clear hc1 hb1
  go_wp2_with fail
  refine (int7_at (some ⟨w.heap.size, 0, none⟩) n n l i top w1 hn HL.out (src_of HL.out HC1.out) v (J : Int) (by rw [HJ.out]; simp [res, HR.out])).mono ?_
  rintro e w2 ⟨rfl, rfl⟩
  go_wp2_with fail
  refine (int7_at (some ⟨w.heap.size, i, none⟩) (n - i) (n - i) (l.drop i) 0 top w1 (by omega) (by rw [List.length_drop, HL.out]) (src_drop i HL.out HC1.out) v (r : Int) (by rw [List.drop_zero]; simp [res, HR.out])).mono ?_
  rintro e w2 ⟨rfl, rfl⟩
  go_wp2_with fail
  refine (int7_at (some ⟨w.heap.size, 0, none⟩) J n (l.take J) i top w1 (by omega) (by rw [List.length_take, HL.out]; omega) (src_take J HL.out HC1.out) v (J : Int) (by
    have hcut := core_cut HR.out
    rw [List.drop_take, show J - i = r by omega, HJ.out]
    simp [res, hcut])).mono ?_
  rintro e w2 ⟨rfl, rfl⟩
  go_wp2_with fail
  go_ret
  exact ⟨rfl, Hb1.out⟩
end Go.Proofs.Qxb6604023a
