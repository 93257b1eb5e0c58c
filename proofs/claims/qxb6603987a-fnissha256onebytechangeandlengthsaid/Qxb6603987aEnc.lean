/- zzEncodeInto (function 9), zzAllNibblesDigits (function 10). -/
import Derived.Test.Qxb6603987aAlpha
namespace Go.Proofs.Qxb6603987a
open Go.ChangeShapes Go.WideShapes Go.ChangeAt Go.RowKit

/-- Bytes as cells. -/
def rowB (xs : List UInt8) : List Value := xs.map fun b => Value.int .u8 (b.toNat : Int)
theorem rowB_length (xs : List UInt8) : (rowB xs).length = xs.length := by simp [rowB]
theorem rowB_at (xs : List UInt8) (t : Nat) (h : t < xs.length) : (rowB xs)[t]? = some (.int .u8 ((xs.getD t 0).toNat : Int)) := by
  simp [rowB, h, List.getD]
theorem rowB_set (xs : List UInt8) (t : Nat) (b : UInt8) : rowB (xs.set t b) = (rowB xs).set t (.int .u8 (b.toNat : Int)) := by
  simp [rowB, List.map_set]

theorem own_cellB {w : World} {base g n cap : Nat} {xs : List UInt8} (h : w.ownsRow base 5 1 (.slice (some ⟨g, 0, none⟩) n cap) n (rowB xs)) (t : Nat) (ht : t < n) :
    w.cell? ⟨g, t, none⟩ = some (.int .u8 ((xs.getD t 0).toNat : Int)) := by
  have hl : xs.length = n := by simpa [rowB] using h.1
  rw [h.cellAt t (by omega)]
  exact rowB_at xs t (by omega)

/-- The t-th character of the hexadecimal form of ds in the alphabet al. -/
def encAt (al : ByteArray) (ds : List UInt8) (t : Nat) : UInt8 :=
  al.data.toList.getD (if t % 2 = 0 then (ds.getD (t / 2) 0).toNat / 16 else (ds.getD (t / 2) 0).toNat % 16) 0

theorem encAt_even (al : ByteArray) (ds : List UInt8) (k : Nat) (d : UInt8) (hd : ds.getD k 0 = d) (hal : d.toNat / 16 < al.size) : al[d.toNat / 16] = encAt al ds (2 * k) := by
  unfold encAt
  rw [show 2 * k / 2 = k by omega, hd, if_pos (by omega)]
  have : al.data.toList[d.toNat / 16]'(by simpa using hal) = al[d.toNat / 16] := by simp; rfl
  rw [← this]
  simp [List.getD, hal]
theorem encAt_odd (al : ByteArray) (ds : List UInt8) (k : Nat) (d : UInt8) (hd : ds.getD k 0 = d) (hal : d.toNat % 16 < al.size) : al[d.toNat % 16] = encAt al ds (2 * k + 1) := by
  unfold encAt
  rw [show (2 * k + 1) / 2 = k by omega, hd, if_neg (by omega)]
  have : al.data.toList[d.toNat % 16]'(by simpa using hal) = al[d.toNat % 16] := by simp; rfl
  rw [← this]
  simp [List.getD, hal]

/-- The digest's box. -/
def BoxAt (w : World) (B : Nat) (ds : List UInt8) : Prop := w.heap[B]? = some (.cells (rowB ds).toArray 24 (0, 0))
theorem BoxAt.cell {w : World} {B : Nat} {ds : List UInt8} (h : BoxAt w B ds) (t : Nat) (ht : t < ds.length) : w.cell? ⟨B, t, none⟩ = some (.int .u8 ((ds.getD t 0).toNat : Int)) := by
  rw [cell_of_row w B t _ 24 (0, 0) h]
  simpa using rowB_at ds t ht
theorem BoxAt.lt {w : World} {B : Nat} {ds : List UInt8} (h : BoxAt w B ds) : B < w.heap.size := (Array.getElem?_eq_some_iff.1 h).1
theorem BoxAt.later {w w' : World} {B b : Nat} {ds : List UInt8} (h : BoxAt w B ds) (hb : Below b w w') (hB : B < b) : BoxAt w' B ds := (hb.block B hB).trans h
theorem BoxAt.setCell {w : World} {B : Nat} {ds : List UInt8} (h : BoxAt w B ds) (a : Addr) (v : Value) (hne : B ≠ a.block) : BoxAt (w.setCell a v) B ds := (heap_setCell_other w a B v hne).trans h

theorem set2_getD (xs : List UInt8) (f : Nat → UInt8) (k : Nat) (hl : xs.length = 64) (hk : k < 32) (h : ∀ t, t < 2 * k → xs.getD t 0 = f t) :
    ∀ t, t < 2 * (k + 1) → ((xs.set (2 * k) (f (2 * k))).set (2 * k + 1) (f (2 * k + 1))).getD t 0 = f t := by
  intro t ht
  rw [List.getD_eq_getElem?_getD, List.getElem?_set, List.getElem?_set]
  by_cases e1 : 2 * k + 1 = t
  · subst e1; simp [hl, show 2 * k + 1 < 64 by omega]
  · rw [if_neg e1]
    by_cases e2 : 2 * k = t
    · subst e2; simp [hl, show 2 * k < 64 by omega]
    · rw [if_neg e2, ← List.getD_eq_getElem?_getD]
      exact h t (by omega)

set_option maxHeartbeats 1600000 in
theorem enc9 (g : Nat) (ds : List UInt8) (al : ByteArray) (xs0 : List UInt8) (w : World) (hd : ds.length = 32) (hal : al.size = 16) (hg : g < w.heap.size)
    (hown : w.ownsRow g 5 1 (.slice (some ⟨g, 0, none⟩) 64 64) 64 (rowB xs0)) :
    Calls Try.prog 9 #[.slice (some ⟨g, 0, none⟩) 64 64, .agg (rowB ds).toArray, .string al] w fun e w' => e = .returned (.tuple #[]) ∧ ∃ xs : List UInt8, xs.length = 64 ∧ (∀ t, t < 64 → xs.getD t 0 = encAt al ds t) ∧
      w'.ownsRow g 5 1 (.slice (some ⟨g, 0, none⟩) 64 64) 64 (rowB xs) ∧ Below g w w' := by
  have HD := hidIt hd
  have HO := hidIt hown
  clear hd hown
  go_enter Try.func9, Try.ntmps9
  go_wp2
  go_loopw [6] (fun i wr => ∃ (k : Nat) (xs : List UInt8), k ≤ 32 ∧ i = .int .i64 (k : Int) ∧ xs.length = 64 ∧ (∀ t, t < 2 * k → xs.getD t 0 = encAt al ds t) ∧
      wr.ownsRow g 5 1 (.slice (some ⟨g, 0, none⟩) 64 64) 64 (rowB xs) ∧ Below g w wr ∧ BoxAt wr w.heap.size ds)
    (fun i _ => 32 - (intOf i).toNat)
  case atStart => exact ⟨0, xs0, by omega, rfl, by simpa [rowB] using HO.out.1, fun t ht => by omega, HO.out.alloc _, (Below.refl _ _).alloc (by omega) _, heap_alloc_new _ _⟩
  case round =>
    obtain ⟨k, xs, hk, rfl, hxl, hxe, hown, hnx, hbox⟩ := hrel
    have HXL := hidIt hxl
    have HXE := hidIt hxe
    have HO' := hidIt hown
    have HB := hidIt hbox
    clear hxl hown hxe hbox
    by_cases hlt : k < 32
    · obtain ⟨d, hd⟩ : ∃ d : UInt8, ds.getD k 0 = d := ⟨_, rfl⟩
      have hd' := hidIt hd
      have hcd : wr.cell? ⟨w.heap.size, k, none⟩ = some (.int .u8 (d.toNat : Int)) := by rw [HB.out.cell k (by have := HD.out; omega), hd]
      clear hd
      have hd255 : d.toNat < 256 := d.toNat_lt
      have hfr0 : wr.frozen? ⟨g, 2 * k, none⟩ = false := HO'.out.frozenAt _
      have hc0 := own_cellB HO'.out (2 * k) (by omega)
      have hfr1 : wr.frozen? ⟨g, 2 * k + 1, none⟩ = false := HO'.out.frozenAt _
      have hc1 := own_cellB HO'.out (2 * k + 1) (by omega)
      go_wp2
      go_roundw
      case rel =>
        have hs0 := (HO'.out.stored (2 * k) (.int .u8 ((encAt al ds (2 * k)).toNat : Int))).1
        have hs1 := (hs0.stored (2 * k + 1) (.int .u8 ((encAt al ds (2 * k + 1)).toNat : Int))).1
        rw [← rowB_set, ← rowB_set] at hs1
        rw [encAt_even al ds k d hd'.out (by omega), encAt_odd al ds k d hd'.out (by omega)]
        exact ⟨k + 1, _, by omega, by go_num, by simpa using HXL.out, set2_getD xs (encAt al ds) k HXL.out hlt HXE.out, hs1, (hnx.setCell (Nat.le_refl _) _).setCell (Nat.le_refl _) _, (HB.out.setCell _ _ (by show w.heap.size ≠ g; omega)).setCell _ _ (by show w.heap.size ≠ g; omega)⟩
      case measure => simp [intOf]; omega
    · obtain rfl : k = 32 := by omega
      go_wp2
      go_end0
      exact ⟨rfl, xs, HXL.out, HXE.out, HO'.out, hnx⟩

/-! ### zzAllNibblesDigits -/
def digB (ds : List UInt8) : Bool := ds.all fun d => decide (d.toNat / 16 < 10) && decide (d.toNat % 16 < 10)
theorem digB_bad {ds : List UInt8} {k : Nat} {d : UInt8} (hk : k < ds.length) (hd : ds.getD k 0 = d) (h : ¬ (d.toNat / 16 < 10 ∧ d.toNat % 16 < 10)) : digB ds = false := by
  cases e : digB ds with
  | false => rfl
  | true =>
    simp only [digB, List.all_eq_true, Bool.and_eq_true, decide_eq_true_eq] at e
    refine absurd (e d ?_) h
    rw [← hd]
    simp [List.getD, hk]
theorem digB_good {ds : List UInt8} (h : ∀ t, t < ds.length → (ds.getD t 0).toNat / 16 < 10 ∧ (ds.getD t 0).toNat % 16 < 10) : digB ds = true := by
  simp only [digB, List.all_eq_true, Bool.and_eq_true, decide_eq_true_eq]
  intro b hb
  obtain ⟨t, ht, rfl⟩ := List.getElem_of_mem hb
  have := h t ht
  simpa [List.getD, ht] using this

set_option maxHeartbeats 800000 in
theorem nib10 (ds : List UInt8) (w : World) (hd : ds.length = 32) :
    Calls Try.prog 10 #[.agg (rowB ds).toArray] w fun e w' => e = .returned (.bool (digB ds)) ∧ Below w.heap.size w w' := by
  have HD := hidIt hd
  have HB : Hid (BoxAt (w.alloc (.cells (rowB ds).toArray 24)) w.heap.size ds) := hidIt (heap_alloc_new _ _)
  have hbel : Below w.heap.size w (w.alloc (.cells (rowB ds).toArray 24)) := (Below.refl _ _).alloc (Nat.le_refl _) _
  have HBel := hidIt hbel
  clear hd hbel
  go_enter Try.func10, Try.ntmps10
  go_wp2
  go_loop [3] (fun i => ∃ k : Nat, k ≤ 32 ∧ i = .int .i64 (k : Int) ∧ ∀ t, t < k → (ds.getD t 0).toNat / 16 < 10 ∧ (ds.getD t 0).toNat % 16 < 10) (fun i => 32 - (intOf i).toNat)
  case atStart => exact ⟨0, by omega, rfl, fun t h => by omega⟩
  case round =>
    obtain ⟨k, hk, rfl, hall⟩ := hrel
    have HA := hidIt hall
    clear hall
    by_cases hlt : k < 32
    · obtain ⟨d, hd⟩ : ∃ d : UInt8, ds.getD k 0 = d := ⟨_, rfl⟩
      have hd' := hidIt hd
      have hcd : (w.alloc (.cells (rowB ds).toArray 24)).cell? ⟨w.heap.size, k, none⟩ = some (.int .u8 (d.toNat : Int)) := by rw [HB.out.cell k (by have := HD.out; omega), hd]
      clear hd
      have hd255 : d.toNat < 256 := d.toNat_lt
      by_cases g1 : d.toNat / 16 < 10
      · by_cases g2 : d.toNat % 16 < 10
        · go_wp2
          go_round
          case rel => exact ⟨k + 1, by omega, by go_num, fun t ht => by
            by_cases e : t = k
            · subst e; rw [hd'.out]; exact ⟨g1, g2⟩
            · exact HA.out t (by omega)⟩
          case measure => simp [intOf]; omega
        · have HF : Hid (digB ds = false) := hidIt (digB_bad (by have := HD.out; omega) hd'.out (by omega))
          go_wp2
          go_ret
          exact ⟨ret_bool HF.out.symm, HBel.out⟩
      · have HF : Hid (digB ds = false) := hidIt (digB_bad (by have := HD.out; omega) hd'.out (by omega))
        go_wp2
        go_ret
        exact ⟨ret_bool HF.out.symm, HBel.out⟩
    · have HT : Hid (digB ds = true) := hidIt (digB_good (fun t ht => HA.out t (by have := HD.out; omega)))
      go_wp2
      go_ret
      exact ⟨ret_bool HT.out.symm, HBel.out⟩
end Go.Proofs.Qxb6603987a
