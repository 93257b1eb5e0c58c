/- isSHA256 (function 12, its shim 8), the alphabet's scan (11), the count (7), the bound (6): each by a contract. -/
import Derived.Test.Qxb6603987aRows
import Derived.Test.Qxb6603987aPlain
import Derived.WalkKit
import Derived.WalkSpells
import Derived.ProofKit
import Derived.OpenShut
import Derived.ShutString
import Derived.ChangeOld
import Derived.Below
namespace Go.Proofs.Qxb6603987a
open Go.ChangeShapes Go.WideShapes Go.ChangeAt Go.RowKit

theorem hidIt {p : Prop} (h : p) : Hid p := h

theorem ret_bool {a b : Bool} (h : a = b) : Ending.returned (.bool a) = .returned (.bool b) := by rw [h]
theorem ret_int {k : IntKind} {a b : Int} (h : a = b) : Ending.returned (.int k a) = .returned (.int k b) := by rw [h]

theorem zz6_yes (s : ByteArray) (w : World) (h : s.size ≤ 1048576) :
    Calls Try.prog 6 #[.string s] w fun e w' => e = .returned (.bool true) ∧ w = w' := by
  go_enter Try.func6, Try.ntmps6
  go_wp2
  go_ret
  exact ⟨rfl, rfl⟩
theorem zz6_no (s : ByteArray) (w : World) (h : ¬ s.size ≤ 1048576) :
    Calls Try.prog 6 #[.string s] w fun e w' => e = .returned (.bool false) ∧ w = w' := by
  go_enter Try.func6, Try.ntmps6
  go_wp2
  go_ret
  exact ⟨rfl, rfl⟩

/-! ### isSHA256 -/
theorem sha12_size (s : ByteArray) (w : World) (h : s.size ≠ 64) :
    Calls Try.prog 12 #[.string s] w fun e w' => e = .returned (.bool false) ∧ w = w' := by
  have h' : (s.size : Int) ≠ 64 := by omega
  go_enter Try.func12, Try.ntmps12
  go_wp2
  go_ret
  exact ⟨rfl, rfl⟩

theorem below_iter (w : World) (s : ByteArray) (pos : Nat) : Below w.heap.size w (w.iter s pos) := (Below.refl _ _).alloc (Nat.le_refl _) _

set_option maxHeartbeats 1600000 in
theorem sha12_64 (s : ByteArray) (w : World) (h : s.size = 64) :
    Calls Try.prog 12 #[.string s] w fun e w' => e = .returned (.bool (shaB s)) ∧ ∃ pos, w' = w.iter s pos := by
  have h1 : (s.size : Int) ≤ 64 := by omega
  have h2 : (64 : Int) ≤ s.size := by omega
  have HS := hidIt h
  have hne : ((s.size : Int) != 64) = false := by simp; omega
  clear h
  go_enter Try.func12, Try.ntmps12
  go_wp2
  go_loopw [4] (fun _ w' => ∃ pos : Nat, w' = w.iter s pos ∧ ∀ t (ht : t < s.size), t < pos → hexN (s[t]'ht).toNat = true) (fun _ w' => s.size - w'.iterPos w.heap.size)
  case atStart => exact ⟨0, rfl, fun t _ h => by omega⟩
  case round =>
    obtain ⟨pos, rfl, hall⟩ := hrel
    have HA := hidIt hall
    clear hall
    by_cases hp : pos < s.size
    · by_cases ha : (s[pos]'hp).toNat < 128
      · obtain ⟨c, hc⟩ : ∃ c : Nat, c = (s[pos]'hp).toNat := ⟨_, rfl⟩
        have hnx : ∀ ty, (Instr.next (.pointer (some ⟨w.heap.size, 0, none⟩)) true ty).run Try.prog (w.iter s pos) = .ok (.tuple #[.bool true, .int .i64 pos, .int .i32 (c : Int)]) (w.iter s (pos + 1)) := fun ty => by rw [hc]; exact run_next_ascii w s pos ty hp ha
        have HC := hidIt hc
        clear hc ha
        by_cases hx : hexN c = true
        · have hstep : Hid (∀ t (ht : t < s.size), t < pos + 1 → hexN (s[t]'ht).toNat = true) := hidIt (fun t ht htp => by
            by_cases e : t = pos
            · subst e; rw [← HC.out]; exact hx
            · exact HA.out t ht (by omega))
          rcases hexN_cases hx with ⟨a1, a2⟩ | ⟨a1, a2⟩
          · clear hx
            go_wp2
            go_roundw
            case rel => exact ⟨pos + 1, rfl, hstep.out⟩
            case measure => simp; omega
          · clear hx
            go_wp2
            go_roundw
            case rel => exact ⟨pos + 1, rfl, hstep.out⟩
            case measure => simp; omega
        · have HF : Hid (shaB s = false) := hidIt (shaB_bad hp (by rw [← HC.out]; simpa using hx))
          rcases (show c < 48 ∨ (57 < c ∧ c < 97) ∨ 102 < c from by
            rcases Nat.lt_or_ge c 48 with h | h
            · exact .inl h
            · rcases Nat.lt_or_ge 102 c with h' | h'
              · exact .inr (.inr h')
              · refine .inr (.inl ?_)
                by_cases g1 : c ≤ 57
                · exact absurd (hexN_true (.inl ⟨h, g1⟩)) hx
                · by_cases g2 : 97 ≤ c
                  · exact absurd (hexN_true (.inr ⟨g2, h'⟩)) hx
                  · omega) with a1 | ⟨a1, a2⟩ | a1
          · clear hx
            go_wp2
            go_ret
            exact ⟨ret_bool HF.out.symm, _, rfl⟩
          · clear hx
            go_wp2
            go_ret
            exact ⟨ret_bool HF.out.symm, _, rfl⟩
          · clear hx
            go_wp2
            go_ret
            exact ⟨ret_bool HF.out.symm, _, rfl⟩
      · obtain ⟨r, hr⟩ : ∃ r : Nat, r = (Utf8.decode s pos).1 := ⟨_, rfl⟩
        obtain ⟨d, hd⟩ : ∃ d : Nat, d = (Utf8.decode s pos).2 := ⟨_, rfl⟩
        have hh := decode_high s pos hp (by omega)
        have hle := decode_le s pos
        rw [← hr] at hh hle
        have hr1 : 128 ≤ r := hh.1
        have HF : Hid (shaB s = false) := hidIt (shaB_bad hp (hexN_false (by omega)))
        have hnx : ∀ ty, (Instr.next (.pointer (some ⟨w.heap.size, 0, none⟩)) true ty).run Try.prog (w.iter s pos) = .ok (.tuple #[.bool true, .int .i64 pos, .int .i32 (r : Int)]) (w.iter s (pos + d)) := fun ty => by rw [hr, hd]; exact run_next_any w s pos ty hp
        clear hh hd hr ha
        go_wp2
        go_ret
        exact ⟨ret_bool HF.out.symm, _, rfl⟩
    · have hnx : ∀ ty, (Instr.next (.pointer (some ⟨w.heap.size, 0, none⟩)) true ty).run Try.prog (w.iter s pos) = _ := fun ty => run_next_end w s pos ty hp
      go_wp2
      go_ret
      exact ⟨ret_bool (shaB_good HS.out (fun t ht => HA.out t ht (by omega))).symm, _, rfl⟩

theorem sha12 (s : ByteArray) (w : World) :
    Calls Try.prog 12 #[.string s] w fun e w' => e = .returned (.bool (shaB s)) ∧ Below w.heap.size w w' := by
  by_cases h : s.size = 64
  · exact (sha12_64 s w h).mono fun e w' ⟨he, pos, hw⟩ => ⟨he, by rw [hw]; exact below_iter w s pos⟩
  · exact (sha12_size s w h).mono fun e w' ⟨he, hw⟩ => ⟨by rw [he, shaB_size h], by subst hw; exact Below.refl _ _⟩

theorem sha8 (s : ByteArray) (w : World) :
    Calls Try.prog 8 #[.string s] w fun e w' => e = .returned (.bool (shaB s)) ∧ Below w.heap.size w w' := by
  go_enter Try.func8, Try.ntmps8
  go_wp2_with fail
  refine (sha12 s w).mono ?_
  rintro e w' ⟨rfl, hb⟩
  go_wp2_with fail
  go_ret
  exact ⟨rfl, hb⟩
end Go.Proofs.Qxb6603987a
