/- The walk of the third law, FnHeadSizeOfEncodedHeader (function 5). -/
import Derived.Test.Qxb6603879aWalks2
namespace Go.Proofs.Qxb6603879a
open Go.ChangeShapes Go.WideShapes Go.ChangeAt Go.RowKit

set_option maxHeartbeats 800000 in
theorem law5_long (b0 n : Int) (m : Bool) (k0 k1 k2 k3 : Int) (a : Option Addr) (len cap : Nat) (w : World) (h : ¬ len ≤ 1048576) :
    Calls Try.prog 5 #[.int .u8 b0, .int .u64 n, .bool m, .agg #[.int .u8 k0, .int .u8 k1, .int .u8 k2, .int .u8 k3], .slice a len cap] w fun e w' => e = .returned (.bool true) ∧ Below w.heap.size w w' := by
  go_enter Try.func5, Try.ntmps5
  go_wp2_with fail
  refine (zz10_no b0 n m k0 k1 k2 k3 a len cap _ h).mono ?_
  rintro e w1 ⟨rfl, hb1⟩
  go_wp2_with fail
  go_ret
  exact ⟨rfl, ((Below.refl _ _).alloc (Nat.le_refl _) _).trans (hb1.mono (by simp))⟩

/-- A byte of the row. -/
theorem hdr_cell {W0 : World} {g cap k : Nat} {L : List Int} {w : World} (h : Hdr W0 g cap k L w) (t : Nat) (ht : t < k) : w.cell? ⟨g, t, none⟩ = some (.int .u8 (L.getD t 0)) := by
  have hl := hdr_len h
  rw [h.1.cellAt t (by omega)]
  simp [show t < L.length by omega, List.getD]

theorem take_getD (L : List Int) (j : Nat) (h : j < L.length) : L.take (j + 1) = L.take j ++ [L.getD j 0] := by
  rw [List.take_succ_eq_append_getElem h]
  simp [List.getD, h]

/-- The box's four cells. -/
def Box (w : World) (B : Nat) (k0 k1 k2 k3 : Int) : Prop :=
  w.cell? ⟨B, 0, none⟩ = some (.int .u8 k0) ∧ w.cell? ⟨B, 1, none⟩ = some (.int .u8 k1) ∧ w.cell? ⟨B, 2, none⟩ = some (.int .u8 k2) ∧ w.cell? ⟨B, 3, none⟩ = some (.int .u8 k3)
theorem Box.later {w w1 : World} {B : Nat} {k0 k1 k2 k3 : Int} (h : Box w B k0 k1 k2 k3) (hb : Below w.heap.size w w1) : Box w1 B k0 k1 k2 k3 :=
  ⟨cell_later hb h.1, cell_later hb h.2.1, cell_later hb h.2.2.1, cell_later hb h.2.2.2⟩

set_option maxHeartbeats 3200000 in
theorem law5_main (b0 n : Int) (m : Bool) (k0 k1 k2 k3 : Int) (a : Option Addr) (len cap : Nat) (zs : List Int) (w : World) (h0 : 0 ≤ n) (h1 : n ≤ 18446744073709551615) (hl : len ≤ 1048576)
    (hz : len ≤ zs.length) (hn : a = none → len = 0 ∧ cap = 0) (hc : ∀ x, a = some x → ∀ t, t < zs.length → w.cell? (x.add t) = some (.int .u8 (zs.getD t 0))) :
    Calls Try.prog 5 #[.int .u8 b0, .int .u64 n, .bool m, .agg #[.int .u8 k0, .int .u8 k1, .int .u8 k2, .int .u8 k3], .slice a len cap] w fun e w' => e = .returned (.bool true) ∧ Below w.heap.size w w' := by
  obtain ⟨i0, hi, hz0, hz1, hz2⟩ := info_parts Try.info5
  have HK : Hid (Box (boxed w k0 k1 k2 k3) w.heap.size k0 k1 k2 k3) := boxed_keys w k0 k1 k2 k3
  have HC := hidIt hc
  have HN := hidIt hn
  have HH1 := hidIt h1
  clear hc hn h1
  go_enter Try.func5, Try.ntmps5
  go_wp2_with fail
  refine (zz10_yes b0 n m k0 k1 k2 k3 a len cap _ hl).mono ?_
  rintro e w1 ⟨rfl, hb1⟩
  have Hb1 : Hid (Below w.heap.size w w1) := hidIt (((Below.refl _ _).alloc (Nat.le_refl _) _).trans (hb1.mono (by simp)))
  have HB1 : Hid (Box w1 w.heap.size k0 k1 k2 k3) := hidIt (HK.out.later hb1)
  clear hb1
  go_wp2_with fail
  refine (clone_any a len cap zs w1 hl hz HN.out (fun x hx t ht => cell_later Hb1.out (HC.out x hx t ht))).mono ?_
  rintro e w2 ⟨ao, rfl, hb2, hc2⟩
  obtain ⟨d0, d1, d2, d3⟩ := HB1.out.later hb2
  have Hb2 := hidIt hb2
  have HC2 := hidIt hc2
  clear hb2 hc2
  go_wp2_with fail
  refine (enc_any b0 n m k0 k1 k2 k3 w2 h0 HH1.out).mono ?_
  rintro e w3 ⟨k, L, z, rfl, hH, hLz, hz0', hz1', hsz, hk2, hk14⟩
  have Hb3 : Hid (Below w2.heap.size w2 w3) := hidIt (((Below.refl _ _).alloc (Nat.le_refl _) _).trans (hH.2.1.mono (by omega)))
  have hcell1 : w3.cell? ⟨w2.heap.size + 1, 1, none⟩ = some (.int .u8 z) := by rw [hdr_cell hH 1 (by omega), hLz]
  have hw3 : w2.heap.size + 1 < w3.heap.size := World.block_lt_of_cell? _ _ hcell1
  have HL : Hid (L.getD 1 0 = z) := hidIt hLz
  have Hll : Hid (L.length = k) := hidIt (hdr_len hH)
  have HHH : Hid (∀ t, t < k → w3.cell? ⟨w2.heap.size + 1, t, none⟩ = some (.int .u8 (L.getD t 0))) := hidIt (fun t ht => hdr_cell hH t ht)
  clear hH hLz d0 d1 d2 d3
  go_wp2_with fail
  refine (hs8 (w2.heap.size + 1) 0 k 16 z _ hz0' hz1' hk2 hcell1).mono ?_
  rintro e w3' ⟨rfl, rfl⟩
  go_wp2_with (at_make; refine wpList_make_own _ rfl _ _ 22 rfl w3.heap.size 5 i0 (.int .u8 0) 1 Try.underlying22 hi hz0 hz1 _ _ _ (k + len) rfl rfl ?b1 ?b2 ?b3 (Nat.le_refl _) ?_)
  case b1 => omega
  case b2 => rw [hz2]; omega
  case b3 => unfold maxLen; omega
  intro w4 hown4 hgrow4
  have H4 := hidIt (Hdr.start rfl hown4 hgrow4)
  clear hown4 hgrow4
  go_wp2_with fail
  go_loopw [13, 14] (fun f i wr => ∃ j : Nat, j ≤ k ∧ i = .int .i64 (j : Int) ∧ f = .slice (some ⟨w3.heap.size, 0, none⟩) j (k + len) ∧ Hdr w3 w3.heap.size (k + len) j (L.take j) wr)
    (fun _ i _ => k - (intOf i).toNat)
  case atStart => exact ⟨0, by omega, rfl, rfl, by simpa using H4.out⟩
  case round =>
    obtain ⟨j, hj, rfl, rfl, hH⟩ := hrel
    by_cases hlt : j < k
    · have hcj : wr.cell? ⟨w2.heap.size + 1, j, none⟩ = some (.int .u8 (L.getD j 0)) := (hH.2.1.cell (by exact hw3)).trans (HHH.out j hlt)
      go_wp2_with (at_builtin; refine wpList_push rfl _ _ rfl _ _ _ _ _ _ rfl (by assumption) rfl (by omega) ?_; intro w5 hH5)
      go_roundw
      case rel =>
        refine ⟨j + 1, by omega, by go_num, rfl, ?_⟩
        rw [take_getD L j (by have := Hll.out; omega)]
        exact hH5
      case measure => simp [intOf]; omega
    · obtain rfl : k = j := by omega
      have hH' : Hdr w3 w3.heap.size (k + len) k L wr := by
        have e : L.take k = L := List.take_of_length_le (by rw [Hll.out]; omega)
        rw [e] at hH
        exact hH
      have HH' := hidIt hH'
      clear hH hH'
      go_wp2_with fail
      go_loopw [13, 15] (fun f i wr => ∃ (j : Nat) (M : List Int), j ≤ len ∧ i = .int .i64 (j : Int) ∧ f = .slice (some ⟨w3.heap.size, 0, none⟩) (k + j) (k + len) ∧ Hdr w3 w3.heap.size (k + len) (k + j) M wr ∧ M.getD 1 0 = z)
        (fun _ i _ => len - (intOf i).toNat)
      case atStart => exact ⟨0, L, by omega, rfl, rfl, HH'.out, HL.out⟩
      case round =>
        obtain ⟨j, M, hj, rfl, rfl, hH, hM⟩ := hrel
        have HM := hidIt hM
        clear hM
        by_cases hlt : j < len
        · obtain ⟨rfl, hcp⟩ := HC2.out (by omega)
          have hcj : wr.cell? ⟨w1.heap.size, j, none⟩ = some (.int .u8 (zs.getD j 0)) := cell_later (hH.2.1) (cell_later Hb3.out (hcp j hlt))
          clear hcp
          go_wp2_with (at_builtin; refine wpList_push rfl _ _ rfl _ _ _ _ _ _ rfl (by assumption) rfl (by omega) ?_; intro w5 hH5)
          go_roundw
          case rel => exact ⟨j + 1, _, by omega, by go_num, rfl, hH5, hdr_getD hH _ _ (by omega) HM.out⟩
          case measure => simp [intOf]; omega
        · obtain rfl : len = j := by omega
          have hce : wr.cell? ⟨w3.heap.size, 1, none⟩ = some (.int .u8 z) := by rw [hdr_cell hH 1 (by omega), HM.out]
          have Hb4 : Hid (Below w.heap.size w wr) := hidIt (((Hb1.out.trans (Hb2.out.mono Hb1.out.size)).trans (Hb3.out.mono (Nat.le_trans Hb1.out.size Hb2.out.size))).trans (hH.2.1.mono (Nat.le_trans Hb1.out.size (Nat.le_trans Hb2.out.size Hb3.out.size))))
          clear hH
          go_wp2_with fail
          refine (hs8 w3.heap.size 0 _ _ z _ hz0' hz1' (by omega) hce).mono ?_
          rintro e w6 ⟨rfl, rfl⟩
          go_wp2_with fail
          go_ret
          exact ⟨rfl, Hb4.out⟩
end Go.Proofs.Qxb6603879a
