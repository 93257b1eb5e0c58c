/- The alphabet's scan (function 11), the count (function 7). -/
import Derived.Test.Qxb6603987aWalks
namespace Go.Proofs.Qxb6603987a
open Go.ChangeShapes Go.WideShapes Go.ChangeAt Go.RowKit

/-- The k-th lower-case hexadecimal digit. -/
def lowN (k : Nat) : Nat := if k < 10 then 48 + k else 87 + k
theorem low_at : ∀ k (h : k < 16), ((⟨#[48, 49, 50, 51, 52, 53, 54, 55, 56, 57, 97, 98, 99, 100, 101, 102]⟩ : ByteArray)[k]'h).toNat = lowN k := by decide +kernel
theorem low_hex : ∀ k, k < 16 → hexN (lowN k) = true := by decide +kernel
theorem hex_low (c : Nat) (h : hexN c = true) : ∃ k, k < 16 ∧ lowN k = c := by
  rcases hexN_cases h with h | h
  · exact ⟨c - 48, by omega, by unfold lowN; rw [if_pos (by omega)]; omega⟩
  · exact ⟨c - 87, by omega, by unfold lowN; rw [if_neg (by omega)]; omega⟩

set_option maxHeartbeats 800000 in
theorem in11 (c : Nat) (w : World) :
    Calls Try.prog 11 #[.int .u8 (c : Int)] w fun e w' => e = .returned (.bool (hexN c)) ∧ w = w' := by
  go_enter Try.func11, Try.ntmps11
  go_wp2
  go_loop [3] (fun i => ∃ k : Nat, k ≤ 16 ∧ i = .int .i64 (k : Int) ∧ ∀ t, t < k → lowN t ≠ c) (fun i => 16 - (intOf i).toNat)
  case atStart => exact ⟨0, by omega, rfl, fun t h => by omega⟩
  case round =>
    obtain ⟨k, hk, rfl, hall⟩ := hrel
    have HA := hidIt hall
    clear hall
    by_cases hlt : k < 16
    · have hlo := low_at k hlt
      by_cases he : lowN k = c
      · have HT : Hid (hexN c = true) := hidIt (by rw [← he]; exact low_hex k hlt)
        go_wp2
        go_ret
        exact ⟨ret_bool HT.out.symm, rfl⟩
      · go_wp2
        go_round
        case rel => exact ⟨k + 1, by omega, by go_num, fun t ht => by
          by_cases e : t = k
          · subst e; exact he
          · exact HA.out t (by omega)⟩
        case measure => simp [intOf]; omega
    · have HF : Hid (hexN c = false) := hidIt (by
        cases e : hexN c with
        | false => rfl
        | true =>
          obtain ⟨t, ht, ec⟩ := hex_low c e
          exact absurd ec (HA.out t (by omega)))
      go_wp2
      go_ret
      exact ⟨ret_bool HF.out.symm, rfl⟩

set_option maxHeartbeats 800000 in
theorem count7 (s : ByteArray) (w : World) (hs : s.size ≤ 1048576) :
    Calls Try.prog 7 #[.string s] w fun e w' => e = .returned (.int .i64 (cntL s.data.toList : Int)) ∧ w = w' := by
  go_enter Try.func7, Try.ntmps7
  go_wp2
  go_loop [3, 4] (fun n i => ∃ k : Nat, k ≤ s.size ∧ i = .int .i64 (k : Int) ∧ n = .int .i64 (cntL (s.data.toList.take k) : Int)) (fun _ i => s.size - (intOf i).toNat)
  case atStart => exact ⟨0, Nat.zero_le _, rfl, rfl⟩
  case round =>
    obtain ⟨k, hk, rfl, rfl⟩ := hrel
    have hle : cntL (s.data.toList.take k) ≤ 1048576 := by
      have h1 := cntL_le (s.data.toList.take k)
      have h2 : (s.data.toList.take k).length ≤ k := List.length_take_le _ _
      omega
    by_cases hlt : k < s.size
    · have HS := hidIt (cntL_snoc s k hlt)
      obtain ⟨c, hc⟩ : ∃ c : Nat, (s[k]'hlt).toNat = c := ⟨_, rfl⟩
      by_cases hx : hexN c = true
      · go_wp2_with (go_at_call 11; refine (in11 c _).mono ?_; rintro e w' ⟨rfl, rfl⟩)
        go_round
        case rel => exact ⟨k + 1, by omega, by go_num, by rw [HS.out, hc, if_pos hx]; go_num⟩
        case measure => simp [intOf]; omega
      · have hx' : hexN c = false := by simpa using hx
        clear hx
        go_wp2_with (go_at_call 11; refine (in11 c _).mono ?_; rintro e w' ⟨rfl, rfl⟩)
        go_round
        case rel => exact ⟨k + 1, by omega, by go_num, by rw [HS.out, hc, if_neg (by simp [hx'])]; go_num⟩
        case measure => simp [intOf]; omega
    · go_wp2_with fail
      go_ret
      exact ⟨ret_int (by rw [List.take_of_length_le (by simp; omega)]), rfl⟩
end Go.Proofs.Qxb6603987a
