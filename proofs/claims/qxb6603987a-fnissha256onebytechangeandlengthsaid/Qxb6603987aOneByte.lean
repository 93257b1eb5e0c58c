/- The walk of FnIsSHA256OneByteChangeAndLength (function 5). -/
import Derived.Test.Qxb6603987aDigest
namespace Go.Proofs.Qxb6603987a
open Go.ChangeShapes Go.WideShapes Go.ChangeAt Go.RowKit

/-! ### Out of range: true at once -/
set_option maxHeartbeats 800000 in
theorem law5_out (ds : List UInt8) (i c j e : Int) (w : World) (h : i < 0 ∨ 64 ≤ i ∨ j < 0 ∨ 64 < j) :
    Calls Try.prog 5 #[.agg (rowB ds).toArray, .int .i64 i, .int .u8 c, .int .i64 j, .int .u8 e] w fun r w' => r = .returned (.bool true) ∧ Below w.heap.size w w' := by
  by_cases h1 : i < 0
  · go_enter Try.func5, Try.ntmps5
    go_wp2
    go_ret
    exact ⟨rfl, (Below.refl _ _).alloc (Nat.le_refl _) _⟩
  · by_cases h2 : 64 ≤ i
    · go_enter Try.func5, Try.ntmps5
      go_wp2
      go_ret
      exact ⟨rfl, (Below.refl _ _).alloc (Nat.le_refl _) _⟩
    · by_cases h3 : j < 0
      · go_enter Try.func5, Try.ntmps5
        go_wp2
        go_ret
        exact ⟨rfl, (Below.refl _ _).alloc (Nat.le_refl _) _⟩
      · have h4 : 64 < j := by omega
        go_enter Try.func5, Try.ntmps5
        go_wp2
        go_ret
        exact ⟨rfl, (Below.refl _ _).alloc (Nat.le_refl _) _⟩

/-! ### In range -/
theorem set_hex {xs : List UInt8} (I : Nat) (cu : UInt8) (hl : xs.length = 64) (hI : I < 64) (h : ∀ t, t < 64 → hexN (xs.getD t 0).toNat = true) : shaB ⟨(xs.set I cu).toArray⟩ = hexN cu.toNat := by
  cases e : hexN cu.toNat with
  | true =>
    refine shaL_true (by simpa using hl) (fun t ht => ?_)
    rw [List.getD_eq_getElem?_getD, List.getElem?_set]
    by_cases eI : I = t
    · subst eI; simp [hl, hI, e]
    · rw [if_neg eI, ← List.getD_eq_getElem?_getD]; exact h t ht
  | false =>
    refine shaL_false (t := I) (by simpa [hl] using hI) ?_
    rw [List.getD_eq_getElem?_getD, List.getElem?_set]
    simp [hl, hI, e]

theorem sha_len {ys : List UInt8} (h : ys.length ≠ 64) : shaB ⟨ys.toArray⟩ = false := by
  show shaL ys = false
  simp [shaL, h]

set_option maxHeartbeats 3200000 in
theorem law5_in (ds : List UInt8) (I J : Nat) (cu eu : UInt8) (w : World) (hd : ds.length = 32) (hI : I < 64) (hJ : J ≤ 64) :
    Calls Try.prog 5 #[.agg (rowB ds).toArray, .int .i64 (I : Int), .int .u8 (cu.toNat : Int), .int .i64 (J : Int), .int .u8 (eu.toNat : Int)] w fun r w' => r = .returned (.bool true) ∧ Below w.heap.size w w' := by
  obtain ⟨i0, hi, hz0, hz1, hz2⟩ := info_parts Try.info5
  have HD := hidIt hd
  have d1 : decide ((I : Int) < 0) = false := by simp
  have d2 : decide ((64 : Int) ≤ (I : Int)) = false := by simp; omega
  have d3 : decide ((J : Int) < 0) = false := by simp
  have d4 : decide ((64 : Int) < (J : Int)) = false := by simp; omega
  clear hd
  go_enter Try.func5, Try.ntmps5
  go_wp2_with (at_make; refine wpList_make_full _ rfl _ _ 25 rfl (w.heap.size + 1) 5 i0 (.int .u8 0) 1 Try.underlying25 hi hz0 hz1 _ _ _ _ 64 rfl rfl rfl rfl ?b2 ?b3 ?b4 ?_)
  case b2 => rw [hz2]; omega
  case b3 => unfold maxLen; omega
  case b4 => simp
  intro w2 hown2 hgrow2
  have HO2 := hidIt (zeros (by simpa using hown2))
  have HB2 : Hid (BoxAt w2 w.heap.size ds) := hidIt ((hgrow2.block w.heap.size (by simp) (by simp)).trans (heap_alloc_new _ _))
  have Hb2 : Hid (Below w.heap.size w w2) := hidIt (((Below.refl _ _).alloc (Nat.le_refl _) _).grown hgrow2 (by simp) (fun k h => by cases h))
  have HG2 : Hid (w.heap.size + 1 < w2.heap.size) := hidIt (own_lt HO2.out)
  clear hown2 hgrow2
  go_wp2_with ((with_reducible refine wpList_load_box ?_ (.tmp 5) ?_ (B := w.heap.size) (ds := ds) ?_ ?_ HD.out ?_); exact rfl; exact rfl; exact rfl; exact HB2.out)
  refine (enc9 (w.heap.size + 1) ds lowA _ w2 HD.out rfl HG2.out HO2.out).mono ?_
  rintro e w3 ⟨rfl, xs, hxl, hxe, hown3, hb3⟩
  have HX := hidIt (And.intro hxl hxe)
  have HO3 := hidIt hown3
  have Hb3 : Hid (Below w.heap.size w w3) := hidIt (Hb2.out.trans (hb3.mono (by omega)))
  clear hxl hxe hown3 hb3
  have hfr3 : w3.frozen? ⟨w.heap.size + 1, I, none⟩ = false := HO3.out.frozenAt _
  have hc3 := own_cellB HO3.out I hI
  have hsha := set_hex I cu HX.out.1 hI (enc_low HX.out)
  have HO4 : Hid ((w3.setCell ⟨w.heap.size + 1, I, none⟩ (.int .u8 (cu.toNat : Int))).ownsRow (w.heap.size + 1) 5 1 (.slice (some ⟨w.heap.size + 1, 0, none⟩) 64 64) 64 (rowB (xs.set I cu))) := hidIt (by
    have := (HO3.out.stored I (.int .u8 (cu.toNat : Int))).1
    rw [← rowB_set] at this
    exact this)
  have hstr := str_of HO4.out
  go_wp2_with fail
  refine (sha8 ⟨(xs.set I cu).toArray⟩ _).mono ?_
  rintro e w5 ⟨rfl, hb5⟩
  obtain ⟨zs, hzs⟩ : ∃ zs, zs = xs.set I cu := ⟨_, rfl⟩
  have HO5 : Hid (w5.ownsRow (w.heap.size + 1) 5 1 (.slice (some ⟨w.heap.size + 1, 0, none⟩) 64 64) 64 (rowB zs)) := hidIt (by rw [hzs]; exact own_later HO4.out hb5 (own_lt HO4.out))
  have Hb5 : Hid (Below w.heap.size w w5) := hidIt (by
    have h := Hb3.out.setCell (p := ⟨w.heap.size + 1, I, none⟩) (by show w.heap.size ≤ w.heap.size + 1; omega) (.int .u8 (cu.toNat : Int))
    exact h.trans (hb5.mono h.size))
  clear hb5 hstr hzs hfr3 hc3 HO4 Hb2 HO2 HB2 HG2 HO3 Hb3
  by_cases hJ64 : J < 64
  · go_wp2_with (first | (go_at_call 11; refine (in11 cu.toNat _).mono ?_; rintro e w' ⟨rfl, rfl⟩) | (at_make; refine wpList_make_full _ rfl _ _ 25 rfl w5.heap.size 5 i0 (.int .u8 0) 1 Try.underlying25 hi hz0 hz1 _ _ _ _ 63 rfl rfl rfl rfl ?c2 ?c3 (Nat.le_refl _) ?_))
    case c2 => rw [hz2]; omega
    case c3 => unfold maxLen; omega
    intro w6 hown6 hgrow6
    have HO6 := hidIt (zeros (by simpa using hown6))
    have Hb6 : Hid (Below w5.heap.size w5 w6) := hidIt ((Below.refl _ _).grown hgrow6 (Nat.le_refl _) (fun k h => by cases h))
    clear hown6 hgrow6
    go_wp2_with fail
    go_loopw [13] (fun i wr => ∃ (k : Nat) (ys : List UInt8), k ≤ J ∧ i = .int .i64 (k : Int) ∧ wr.ownsRow w5.heap.size 5 1 (.slice (some ⟨w5.heap.size, 0, none⟩) 63 63) 63 (rowB ys) ∧ Below w5.heap.size w5 wr)
      (fun i _ => J - (intOf i).toNat)
    case atStart => exact ⟨0, _, by omega, rfl, HO6.out, Hb6.out⟩
    case round =>
      obtain ⟨k, ys, hk, rfl, hown, hnx⟩ := hrel
      have HO := hidIt hown
      have HN := hidIt hnx
      clear hown hnx
      by_cases hlt : k < J
      · have hck : wr.cell? ⟨w.heap.size + 1, k, none⟩ = some (.int .u8 ((zs.getD k 0).toNat : Int)) := (HN.out.cell (by exact own_lt HO5.out)).trans (own_cellB HO5.out k (by omega))
        have hfr : wr.frozen? ⟨w5.heap.size, k, none⟩ = false := HO.out.frozenAt _
        have hco := own_cellB HO.out k (by omega)
        go_wp2_with fail
        go_roundw
        case rel => exact ⟨k + 1, ys.set k (zs.getD k 0), by omega, by go_num, by rw [rowB_set]; exact (HO.out.stored k _).1, HN.out.setCell (Nat.le_refl _) _⟩
        case measure => simp [intOf]; omega
      · obtain rfl : J = k := by omega
        go_wp2_with fail
        go_loopw [14] (fun i wr => ∃ (t : Nat) (ys : List UInt8), t ≤ 63 ∧ i = .int .i64 ((t : Int) + 1) ∧ wr.ownsRow w5.heap.size 5 1 (.slice (some ⟨w5.heap.size, 0, none⟩) 63 63) 63 (rowB ys) ∧ Below w5.heap.size w5 wr)
          (fun i _ => 64 - (intOf i).toNat)
        case atStart => exact ⟨J, _, by omega, rfl, HO.out, HN.out⟩
        case round =>
          obtain ⟨t, ys, hk, rfl, hown, hnx⟩ := hrel
          have HO := hidIt hown
          have HN := hidIt hnx
          clear hown hnx
          by_cases hlt : t < 63
          · have hck : wr.cell? ⟨w.heap.size + 1, t + 1, none⟩ = some (.int .u8 ((zs.getD (t + 1) 0).toNat : Int)) := (HN.out.cell (by exact own_lt HO5.out)).trans (own_cellB HO5.out (t + 1) (by omega))
            have hfr : wr.frozen? ⟨w5.heap.size, t, none⟩ = false := HO.out.frozenAt _
            have hco := own_cellB HO.out t (by omega)
            go_wp2_with fail
            go_roundw
            case rel => exact ⟨t + 1, ys.set t (zs.getD (t + 1) 0), by omega, by go_num, by rw [rowB_set]; exact (HO.out.stored t _).1, HN.out.setCell (Nat.le_refl _) _⟩
            case measure => simp [intOf]; omega
          · have hstr := str_of HO.out
            have hlen := sha_len (ys := ys) (by have := HO.out.1; rw [rowB_length] at this; omega)
            go_wp2_with fail
            refine (sha8 ⟨ys.toArray⟩ _).mono ?_
            rintro e w9 ⟨rfl, hb9⟩
            have HO9 : Hid (w9.ownsRow (w.heap.size + 1) 5 1 (.slice (some ⟨w.heap.size + 1, 0, none⟩) 64 64) 64 (rowB zs)) := hidIt (own_later (own_later HO5.out HN.out (own_lt HO5.out)) hb9 (Nat.lt_of_lt_of_le (own_lt HO5.out) HN.out.size))
            have Hb9 : Hid (Below w.heap.size w w9) := hidIt ((Hb5.out.trans (HN.out.mono Hb5.out.size)).trans (hb9.mono (Nat.le_trans Hb5.out.size HN.out.size)))
            clear hb9 hstr HO HN HO6 Hb6
            go_wp2_with (at_make; refine wpList_make_full _ rfl _ _ 25 rfl w9.heap.size 5 i0 (.int .u8 0) 1 Try.underlying25 hi hz0 hz1 _ _ _ _ 65 rfl rfl rfl rfl ?d2 ?d3 (Nat.le_refl _) ?_)
            case d2 => rw [hz2]; omega
            case d3 => unfold maxLen; omega
            intro wA hownA hgrowA
            have HOA := hidIt (zeros (by simpa using hownA))
            have HbA : Hid (Below w9.heap.size w9 wA) := hidIt ((Below.refl _ _).grown hgrowA (Nat.le_refl _) (fun k h => by cases h))
            clear hownA hgrowA
            go_wp2_with fail
            go_loopw [16] (fun i wr => ∃ (k : Nat) (ys : List UInt8), k ≤ J ∧ i = .int .i64 (k : Int) ∧ wr.ownsRow w9.heap.size 5 1 (.slice (some ⟨w9.heap.size, 0, none⟩) 65 65) 65 (rowB ys) ∧ Below w9.heap.size w9 wr)
              (fun i _ => J - (intOf i).toNat)
            case atStart => exact ⟨0, _, by omega, rfl, HOA.out, HbA.out⟩
            case round =>
              obtain ⟨k, ys, hk, rfl, hown, hnx⟩ := hrel
              have HO := hidIt hown
              have HN := hidIt hnx
              clear hown hnx
              by_cases hlt : k < J
              · have hck : wr.cell? ⟨w.heap.size + 1, k, none⟩ = some (.int .u8 ((zs.getD k 0).toNat : Int)) := (HN.out.cell (by exact own_lt HO9.out)).trans (own_cellB HO9.out k (by omega))
                have hfr : wr.frozen? ⟨w9.heap.size, k, none⟩ = false := HO.out.frozenAt _
                have hco := own_cellB HO.out k (by omega)
                go_wp2_with fail
                go_roundw
                case rel => exact ⟨k + 1, ys.set k (zs.getD k 0), by omega, by go_num, by rw [rowB_set]; exact (HO.out.stored k _).1, HN.out.setCell (Nat.le_refl _) _⟩
                case measure => simp [intOf]; omega
              · obtain rfl : J = k := by omega
                have hfr : wr.frozen? ⟨w9.heap.size, J, none⟩ = false := HO.out.frozenAt _
                have hco := own_cellB HO.out J (by omega)
                have HOB : Hid ((wr.setCell ⟨w9.heap.size, J, none⟩ (.int .u8 (eu.toNat : Int))).ownsRow w9.heap.size 5 1 (.slice (some ⟨w9.heap.size, 0, none⟩) 65 65) 65 (rowB (ys.set J eu))) := hidIt (by rw [rowB_set]; exact (HO.out.stored J _).1)
                have HNB : Hid (Below w9.heap.size w9 (wr.setCell ⟨w9.heap.size, J, none⟩ (.int .u8 (eu.toNat : Int)))) := hidIt (HN.out.setCell (Nat.le_refl _) _)
                go_wp2_with fail
                clear hfr hco HO HN
                go_loopw [17] (fun i wr => ∃ (k : Nat) (ys : List UInt8), k ≤ 64 ∧ i = .int .i64 (k : Int) ∧ wr.ownsRow w9.heap.size 5 1 (.slice (some ⟨w9.heap.size, 0, none⟩) 65 65) 65 (rowB ys) ∧ Below w9.heap.size w9 wr)
                  (fun i _ => 64 - (intOf i).toNat)
                case atStart => exact ⟨J, _, by omega, rfl, HOB.out, HNB.out⟩
                case round =>
                  obtain ⟨k, ys, hk, rfl, hown, hnx⟩ := hrel
                  have HO := hidIt hown
                  have HN := hidIt hnx
                  clear hown hnx
                  by_cases hlt : k < 64
                  · have hck : wr.cell? ⟨w.heap.size + 1, k, none⟩ = some (.int .u8 ((zs.getD k 0).toNat : Int)) := (HN.out.cell (by exact own_lt HO9.out)).trans (own_cellB HO9.out k (by omega))
                    have hfr : wr.frozen? ⟨w9.heap.size, k + 1, none⟩ = false := HO.out.frozenAt _
                    have hco := own_cellB HO.out (k + 1) (by omega)
                    go_wp2_with fail
                    go_roundw
                    case rel => exact ⟨k + 1, ys.set (k + 1) (zs.getD k 0), by omega, by go_num, by rw [rowB_set]; exact (HO.out.stored (k + 1) _).1, HN.out.setCell (Nat.le_refl _) _⟩
                    case measure => simp [intOf]; omega
                  · have hstr := str_of HO.out
                    have hlen := sha_len (ys := ys) (by have := HO.out.1; rw [rowB_length] at this; omega)
                    have HbE : Hid (Below w.heap.size w wr) := hidIt (Hb9.out.trans (HN.out.mono Hb9.out.size))
                    clear HO HN
                    go_wp2_with fail
                    refine (sha8 ⟨ys.toArray⟩ _).mono ?_
                    rintro e wZ ⟨rfl, hbZ⟩
                    have HbZ : Hid (Below w.heap.size w wZ) := hidIt (HbE.out.trans (hbZ.mono HbE.out.size))
                    clear hbZ
                    go_wp2_with fail
                    go_ret
                    exact ⟨rfl, HbZ.out⟩
  · go_wp2_with (first | (go_at_call 11; refine (in11 cu.toNat _).mono ?_; rintro e w' ⟨rfl, rfl⟩) | (at_make; refine wpList_make_full _ rfl _ _ 25 rfl w5.heap.size 5 i0 (.int .u8 0) 1 Try.underlying25 hi hz0 hz1 _ _ _ _ 65 rfl rfl rfl rfl ?f2 ?f3 (Nat.le_refl _) ?_))
    case f2 => rw [hz2]; omega
    case f3 => unfold maxLen; omega
    intro wA hownA hgrowA
    have HOA := hidIt (zeros (by simpa using hownA))
    have HbA : Hid (Below w5.heap.size w5 wA) := hidIt ((Below.refl _ _).grown hgrowA (Nat.le_refl _) (fun k h => by cases h))
    clear hownA hgrowA
    go_wp2_with fail
    go_loopw [16] (fun i wr => ∃ (k : Nat) (ys : List UInt8), k ≤ J ∧ i = .int .i64 (k : Int) ∧ wr.ownsRow w5.heap.size 5 1 (.slice (some ⟨w5.heap.size, 0, none⟩) 65 65) 65 (rowB ys) ∧ Below w5.heap.size w5 wr)
      (fun i _ => J - (intOf i).toNat)
    case atStart => exact ⟨0, _, by omega, rfl, HOA.out, HbA.out⟩
    case round =>
      obtain ⟨k, ys, hk, rfl, hown, hnx⟩ := hrel
      have HO := hidIt hown
      have HN := hidIt hnx
      clear hown hnx
      by_cases hlt : k < J
      · have hck : wr.cell? ⟨w.heap.size + 1, k, none⟩ = some (.int .u8 ((zs.getD k 0).toNat : Int)) := (HN.out.cell (by exact own_lt HO5.out)).trans (own_cellB HO5.out k (by omega))
        have hfr : wr.frozen? ⟨w5.heap.size, k, none⟩ = false := HO.out.frozenAt _
        have hco := own_cellB HO.out k (by omega)
        go_wp2_with fail
        go_roundw
        case rel => exact ⟨k + 1, ys.set k (zs.getD k 0), by omega, by go_num, by rw [rowB_set]; exact (HO.out.stored k _).1, HN.out.setCell (Nat.le_refl _) _⟩
        case measure => simp [intOf]; omega
      · obtain rfl : J = k := by omega
        have hfr : wr.frozen? ⟨w5.heap.size, J, none⟩ = false := HO.out.frozenAt _
        have hco := own_cellB HO.out J (by omega)
        have HOB : Hid ((wr.setCell ⟨w5.heap.size, J, none⟩ (.int .u8 (eu.toNat : Int))).ownsRow w5.heap.size 5 1 (.slice (some ⟨w5.heap.size, 0, none⟩) 65 65) 65 (rowB (ys.set J eu))) := hidIt (by rw [rowB_set]; exact (HO.out.stored J _).1)
        have HNB : Hid (Below w5.heap.size w5 (wr.setCell ⟨w5.heap.size, J, none⟩ (.int .u8 (eu.toNat : Int)))) := hidIt (HN.out.setCell (Nat.le_refl _) _)
        go_wp2_with fail
        clear hfr hco HO HN
        go_loopw [17] (fun i wr => ∃ (k : Nat) (ys : List UInt8), k ≤ 64 ∧ i = .int .i64 (k : Int) ∧ wr.ownsRow w5.heap.size 5 1 (.slice (some ⟨w5.heap.size, 0, none⟩) 65 65) 65 (rowB ys) ∧ Below w5.heap.size w5 wr)
          (fun i _ => 64 - (intOf i).toNat)
        case atStart => exact ⟨J, _, by omega, rfl, HOB.out, HNB.out⟩
        case round =>
          obtain ⟨k, ys, hk, rfl, hown, hnx⟩ := hrel
          have HO := hidIt hown
          have HN := hidIt hnx
          clear hown hnx
          by_cases hlt : k < 64
          · have hck : wr.cell? ⟨w.heap.size + 1, k, none⟩ = some (.int .u8 ((zs.getD k 0).toNat : Int)) := (HN.out.cell (by exact own_lt HO5.out)).trans (own_cellB HO5.out k (by omega))
            have hfr : wr.frozen? ⟨w5.heap.size, k + 1, none⟩ = false := HO.out.frozenAt _
            have hco := own_cellB HO.out (k + 1) (by omega)
            go_wp2_with fail
            go_roundw
            case rel => exact ⟨k + 1, ys.set (k + 1) (zs.getD k 0), by omega, by go_num, by rw [rowB_set]; exact (HO.out.stored (k + 1) _).1, HN.out.setCell (Nat.le_refl _) _⟩
            case measure => simp [intOf]; omega
          · have hstr := str_of HO.out
            have hlen := sha_len (ys := ys) (by have := HO.out.1; rw [rowB_length] at this; omega)
            have HbE : Hid (Below w.heap.size w wr) := hidIt (Hb5.out.trans (HN.out.mono Hb5.out.size))
            clear HO HN
            go_wp2_with fail
            refine (sha8 ⟨ys.toArray⟩ _).mono ?_
            rintro e wZ ⟨rfl, hbZ⟩
            have HbZ : Hid (Below w.heap.size w wZ) := hidIt (HbE.out.trans (hbZ.mono HbE.out.size))
            clear hbZ
            go_wp2_with fail
            go_ret
            exact ⟨rfl, HbZ.out⟩
end Go.Proofs.Qxb6603987a
