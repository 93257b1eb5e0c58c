/- 'integer' (function 13) and its shim (function 7): they compute 'res'. -/
import Derived.Test.Qxb6604023aRows
import Derived.Test.Qxb6604023aPlain
import Derived.WalkKit
import Derived.WalkSpells
import Derived.ProofKit
import Derived.OpenShut
import Derived.ShutString
import Derived.ChangeOld
import Derived.Below
import Derived.BigGuardPart
namespace Go.Proofs.Qxb6604023a
open Go.ChangeShapes Go.WideShapes Go.ChangeAt Go.RowKit

theorem hidIt {p : Prop} (h : p) : Hid p := h
theorem ret_two {r : Int × Int} {a b : Int} (h : r = (a, b)) : Ending.returned (.tuple #[.int .i64 a, .int .i64 b]) = .returned (.tuple #[.int .i64 r.1, .int .i64 r.2]) := by rw [h]

theorem sub_take (l : List UInt8) (s k : Nat) (hs : s ≤ k) (hk : k < l.length) : (l.drop s).take (k + 1 - s) = (l.drop s).take (k - s) ++ [l.getD k 0] := by
  rw [show k + 1 - s = (k - s) + 1 by omega, List.take_succ_eq_append_getElem (by rw [List.length_drop]; omega)]
  congr 1
  simp [List.getD, hk, show s + (k - s) = k by omega]

/-- At or behind the end: no integer. -/
theorem int13_end (ao : Option Addr) (n cap : Nat) (i top : Int) (w : World) (hi : (n : Int) ≤ i) :
    Calls Try.prog 13 #[.slice ao n cap, .int .i64 i, .int .u64 top] w fun e w' => e = .returned (.tuple #[.int .i64 0, .int .i64 (-1)]) ∧ w = w' := by
  have hd : decide (i < (n : Int)) = false := by simp; omega
  go_enter Try.func13, Try.ntmps13
  go_wp2
  refine wp_loop_rounds 1 ?_
  rw [rounds_succ]
  go_wp2
  go_ret2
  exact ⟨rfl, rfl⟩

set_option maxHeartbeats 3200000 in
theorem int13_pos (b off n cap : Nat) (l : List UInt8) (i : Nat) (top : Int) (w : World) (hn : n ≤ 1048576) (hl : l.length = n) (hi : i < n)
    (hc : ∀ t, t < n → w.cell? ⟨b, off + t, none⟩ = some (.int .u8 ((l.getD t 0).toNat : Int))) (hsg : isNeg (l.drop i) = false) :
    Calls Try.prog 13 #[.slice (some ⟨b, off, none⟩) n cap, .int .i64 (i : Int), .int .u64 top] w fun e w' => e = .returned (.tuple #[.int .i64 (res (l.drop i) i top).1, .int .i64 (res (l.drop i) i top).2]) ∧ w = w' := by
  obtain ⟨c0, hc0⟩ : ∃ c : Nat, (l.getD i 0).toNat = c := ⟨_, rfl⟩
  have hci : w.cell? ⟨b, off + i, none⟩ = some (.int .u8 (c0 : Int)) := by rw [hc i hi, hc0]
  have hneq : ((c0 : Int) == 45) = false := by
    have := of_decide_eq_false hsg
    rw [getD_drop, Nat.add_zero, hc0] at this
    simp; omega
  have HC0 := hidIt hc0
  clear hc0
  have HC := hidIt hc
  have HL := hidIt hl
  have HP := hidIt hsg
  have HS : Hid (i = i + skip (l.drop i)) := hidIt (by rw [skip_pos hsg]; rfl)
  clear hc hl hsg
  rcases (show c0 = 48 ∨ c0 ≠ 48 from by omega) with hz | hz
  all_goals
    go_enter Try.func13, Try.ntmps13
    go_wp2
    go_loop [1, 10, 11] (fun i1 u _ => ∃ k : Nat, i ≤ k ∧ k ≤ n ∧ i1 = .int .i64 (k : Int) ∧ u = .int .u64 (uval ((l.drop i).take (k - i))) ∧ ∀ t, i ≤ t → t < k → isDig (l.getD t 0) = true)
      (fun i1 _ _ => n - (intOf i1).toNat)
    case atStart => exact ⟨i, Nat.le_refl _, by omega, by go_num, by simp [uval], fun t h1 h2 => by omega⟩
    case round =>
      obtain ⟨k, hk1, hk2, rfl, rfl, hall⟩ := hrel
      have HA := hidIt hall
      clear hall
      obtain ⟨u, hu⟩ : ∃ u : Int, uval ((l.drop i).take (k - i)) = u := ⟨_, rfl⟩
      by_cases hlt : k < n
      · obtain ⟨c, hcc⟩ : ∃ c : Nat, (l.getD k 0).toNat = c := ⟨_, rfl⟩
        have hck : w.cell? ⟨b, off + k, none⟩ = some (.int .u8 (c : Int)) := by rw [HC.out k hlt, hcc]
        have hc255 : c ≤ 255 := by have := (l.getD k 0).toNat_lt; omega
        have HCC := hidIt hcc
        clear hcc
        by_cases g : 48 ≤ c ∧ c ≤ 57
        · obtain ⟨g1, g2⟩ := g
          have HU := hidIt hu
          go_wp2
          go_round
          case rel =>
            refine ⟨k + 1, by omega, by omega, by go_num, ?_, fun t h1 h2 => ?_⟩
            · rw [sub_take l (i) k hk1 (by rw [HL.out]; exact hlt), uval_snoc, HU.out, ustep, HCC.out]
            · by_cases e : t = k
              · subst e; exact isDig_true (by rw [HCC.out]; exact ⟨g1, g2⟩)
              · exact HA.out t h1 (by omega)
          case measure => simp [intOf]; omega
        · have hw9 : (9 : Int) < ((c : Int) - 48) % 256 := by omega
          have HR := hidIt (run_eq HS.out hk1 (by rw [HL.out]; exact hk2) HA.out (.inr (isDig_false (by rw [HCC.out]; exact g))))
          have HU := hidIt hu
          clear g
          go_wp2
          all_goals
            go_ret2
            first
            | exact ⟨ret_two (res_no_pos HP.out HR.out (by rw [HL.out]; exact hk2) HU.out HC0.out (by omega)), rfl⟩
            | exact ⟨ret_two (res_yes_pos HP.out HR.out HS.out (by rw [HL.out]; exact hk2) HU.out HC0.out (by omega) (by assumption)), rfl⟩
      · have HR := hidIt (run_eq HS.out hk1 (by rw [HL.out]; exact hk2) HA.out (.inl (by rw [HL.out]; omega)))
        have HU := hidIt hu
        go_wp2
        all_goals
          go_ret2
          first
          | exact ⟨ret_two (res_no_pos HP.out HR.out (by rw [HL.out]; exact hk2) HU.out HC0.out (by omega)), rfl⟩
          | exact ⟨ret_two (res_yes_pos HP.out HR.out HS.out (by rw [HL.out]; exact hk2) HU.out HC0.out (by omega) (by assumption)), rfl⟩

set_option maxHeartbeats 3200000 in
theorem int13_neg (b off n cap : Nat) (l : List UInt8) (i : Nat) (top : Int) (w : World) (hn : n ≤ 1048576) (hl : l.length = n) (hi : i + 1 < n)
    (hc : ∀ t, t < n → w.cell? ⟨b, off + t, none⟩ = some (.int .u8 ((l.getD t 0).toNat : Int))) (hsg : isNeg (l.drop i) = true) :
    Calls Try.prog 13 #[.slice (some ⟨b, off, none⟩) n cap, .int .i64 (i : Int), .int .u64 top] w fun e w' => e = .returned (.tuple #[.int .i64 (res (l.drop i) i top).1, .int .i64 (res (l.drop i) i top).2]) ∧ w = w' := by
  obtain ⟨c0, hc0⟩ : ∃ c : Nat, (l.getD (i + 1) 0).toNat = c := ⟨_, rfl⟩
  have hcs : w.cell? ⟨b, off + (i + 1), none⟩ = some (.int .u8 (c0 : Int)) := by rw [hc (i + 1) hi, hc0]
  have hci : w.cell? ⟨b, off + i, none⟩ = some (.int .u8 45) := by
    have := of_decide_eq_true hsg
    rw [getD_drop, Nat.add_zero] at this
    rw [hc i (by omega), this]
    rfl
  have hin : i < n := by omega
  have hdn : decide ((i : Int) < (n : Int)) = true := by simp; omega
  obtain ⟨T, hT⟩ : ∃ T : Int, IntKind.u64.wrap (top + 1) = T := ⟨_, rfl⟩
  have HT := hidIt hT
  have HC0 := hidIt hc0
  clear hc0
  have HC := hidIt hc
  have HL := hidIt hl
  have HP := hidIt hsg
  have HS : Hid (i + 1 = i + skip (l.drop i)) := hidIt (by rw [skip_neg hsg])
  clear hc hl hsg
  rcases (show c0 = 48 ∨ c0 ≠ 48 from by omega) with hz | hz
  all_goals
    go_enter Try.func13, Try.ntmps13
    go_wp2
    go_loop [1, 10, 11] (fun i1 u _ => ∃ k : Nat, i + 1 ≤ k ∧ k ≤ n ∧ i1 = .int .i64 (k : Int) ∧ u = .int .u64 (uval ((l.drop (i + 1)).take (k - (i + 1)))) ∧ ∀ t, i + 1 ≤ t → t < k → isDig (l.getD t 0) = true)
      (fun i1 _ _ => n - (intOf i1).toNat)
    case atStart => exact ⟨i + 1, Nat.le_refl _, by omega, by go_num, by simp [uval], fun t h1 h2 => by omega⟩
    case round =>
      obtain ⟨k, hk1, hk2, rfl, rfl, hall⟩ := hrel
      have HA := hidIt hall
      clear hall
      obtain ⟨u, hu⟩ : ∃ u : Int, uval ((l.drop (i + 1)).take (k - (i + 1))) = u := ⟨_, rfl⟩
      by_cases hlt : k < n
      · obtain ⟨c, hcc⟩ : ∃ c : Nat, (l.getD k 0).toNat = c := ⟨_, rfl⟩
        have hck : w.cell? ⟨b, off + k, none⟩ = some (.int .u8 (c : Int)) := by rw [HC.out k hlt, hcc]
        have hc255 : c ≤ 255 := by have := (l.getD k 0).toNat_lt; omega
        have HCC := hidIt hcc
        clear hcc
        by_cases g : 48 ≤ c ∧ c ≤ 57
        · obtain ⟨g1, g2⟩ := g
          have HU := hidIt hu
          go_wp2
          go_round
          case rel =>
            refine ⟨k + 1, by omega, by omega, by go_num, ?_, fun t h1 h2 => ?_⟩
            · rw [sub_take l (i + 1) k hk1 (by rw [HL.out]; exact hlt), uval_snoc, HU.out, ustep, HCC.out]
            · by_cases e : t = k
              · subst e; exact isDig_true (by rw [HCC.out]; exact ⟨g1, g2⟩)
              · exact HA.out t h1 (by omega)
          case measure => simp [intOf]; omega
        · have hw9 : (9 : Int) < ((c : Int) - 48) % 256 := by omega
          have HR := hidIt (run_eq HS.out hk1 (by rw [HL.out]; exact hk2) HA.out (.inr (isDig_false (by rw [HCC.out]; exact g))))
          have HU := hidIt hu
          clear g
          go_wp2
          all_goals
            go_ret2
            first
            | exact ⟨ret_two (res_no_neg HP.out HR.out (by rw [HL.out]; exact hk2) HU.out HC0.out HT.out (by omega)), rfl⟩
            | exact ⟨ret_two (res_yes_neg HP.out HR.out HS.out (by rw [HL.out]; exact hk2) HU.out HC0.out HT.out (by omega) (by assumption)), rfl⟩
      · have HR := hidIt (run_eq HS.out hk1 (by rw [HL.out]; exact hk2) HA.out (.inl (by rw [HL.out]; omega)))
        have HU := hidIt hu
        go_wp2
        all_goals
          go_ret2
          first
          | exact ⟨ret_two (res_no_neg HP.out HR.out (by rw [HL.out]; exact hk2) HU.out HC0.out HT.out (by omega)), rfl⟩
          | exact ⟨ret_two (res_yes_neg HP.out HR.out HS.out (by rw [HL.out]; exact hk2) HU.out HC0.out HT.out (by omega) (by assumption)), rfl⟩

end Go.Proofs.Qxb6604023a
