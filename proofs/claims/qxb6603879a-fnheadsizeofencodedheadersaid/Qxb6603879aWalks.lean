/- The callees of the three laws of this seat, each by a contract of its own. -/
import Derived.Test.Qxb6603879aRows
import Derived.WalkKit
import Derived.WalkSpells
import Derived.ProofKit
import Derived.OpenShut
import Derived.ShutString
import Derived.ChangeOld
import Derived.Below
namespace Go.Proofs.Qxb6603879a
open Go.ChangeShapes Go.WideShapes Go.ChangeAt Go.RowKit

theorem Try.info5 : (Try.prog.info? 5).map (fun i => (i.zero, i.size, i.bytes)) = some (some (.int .u8 0), 1, 1) := by kernel_rfl

/-! ### The bound on the length: functions 6, 9 -/
theorem zz6_yes (a : Option Addr) (len cap : Nat) (w : World) (h : len ≤ 1048576) :
    Calls Try.prog 6 #[.slice a len cap] w fun e w' => e = .returned (.bool true) ∧ w = w' := by
  go_enter Try.func6, Try.ntmps6
  go_wp2
  go_ret
  exact ⟨rfl, rfl⟩
theorem zz6_no (a : Option Addr) (len cap : Nat) (w : World) (h : ¬ len ≤ 1048576) :
    Calls Try.prog 6 #[.slice a len cap] w fun e w' => e = .returned (.bool false) ∧ w = w' := by
  go_enter Try.func6, Try.ntmps6
  go_wp2
  go_ret
  exact ⟨rfl, rfl⟩

/-! ### cloneBytes: function 7 -/
theorem take_set_succ (xs zs : List Int) (k : Nat) (hx : k < xs.length) (hz : k < zs.length) (h : xs.take k = zs.take k) : (xs.set k (zs.getD k 0)).take (k + 1) = zs.take (k + 1) := by
  rw [List.take_succ_eq_append_getElem (by simpa using hx), List.take_succ_eq_append_getElem hz]
  simp [List.take_set_of_le, h, List.getD, hz]

set_option maxHeartbeats 800000 in
theorem clone_some (b off len cap : Nat) (zs : List Int) (w : World) (hl : len ≤ 1048576) (hz : len ≤ zs.length) (hb : b < w.heap.size)
    (hc : ∀ t, t < len → w.cell? ⟨b, off + t, none⟩ = some (.int .u8 (zs.getD t 0))) :
    Calls Try.prog 7 #[.slice (some ⟨b, off, none⟩) len cap] w fun e w' => e = .returned (.slice (some ⟨w.heap.size, 0, none⟩) len len) ∧
      w'.ownsRow w.heap.size 5 1 (.slice (some ⟨w.heap.size, 0, none⟩) len len) len ((zs.take len).map (Value.int .u8)) ∧ Below w.heap.size w w' := by
  obtain ⟨i0, hi, hz0, hz1, hz2⟩ := info_parts Try.info5
  have q22 : ∀ (w : World) (a : Option Addr) (n c n' c' : Nat), (binOp .eql 22 (.slice a n c) (.slice none n' c')).run Try.prog w = .ok (.bool a.isNone) w := fun w a n c n' c' => Lib.run_eql_slice_nil w _ _ a n c n' c' Try.underlying22
  go_enter Try.func7, Try.ntmps7
  go_wp2_with (at_make; refine wpList_make_full _ rfl _ _ 22 rfl w.heap.size 5 i0 (.int .u8 0) 1 Try.underlying22 hi hz0 hz1 _ _ _ _ len rfl rfl rfl rfl ?b2 ?b3 (Nat.le_refl _) ?_)
  case b2 => rw [hz2]; omega
  case b3 => unfold maxLen; omega
  intro w0 hown0 hgrow0
  have hown0' : w0.ownsRow w.heap.size 5 1 (.slice (some ⟨w.heap.size, 0, none⟩) len len) len ((List.replicate len (0 : Int)).map (Value.int .u8)) := by
    rw [toList_madeCells_one] at hown0
    rw [List.map_replicate]
    exact hown0
  clear hown0
  go_wp2
  go_loopw [4] (fun i wr => ∃ (k : Nat) (xs : List Int), k ≤ len ∧ i = .int .i64 k ∧ xs.length = len ∧ xs.take k = zs.take k ∧
      wr.ownsRow w.heap.size 5 1 (.slice (some ⟨w.heap.size, 0, none⟩) len len) len (xs.map (Value.int .u8)) ∧ Below w.heap.size w wr)
    (fun i _ => len - (intOf i).toNat)
  case atStart => exact ⟨0, List.replicate len 0, Nat.zero_le _, rfl, by simp, by simp, hown0', (Below.refl _ _).grown hgrow0 (Nat.le_refl _) (fun k h => by cases h)⟩
  case round =>
    obtain ⟨k, xs, hk, rfl, hxl, hxt, hown, hnx⟩ := hrel
    have Hxl : Hid (xs.length = len) := hxl
    have Hxt : Hid (xs.take k = zs.take k) := hxt
    have HO : Hid (wr.ownsRow w.heap.size 5 1 (.slice (some ⟨w.heap.size, 0, none⟩) len len) len (xs.map (Value.int .u8))) := hown
    clear hxl hxt hown
    by_cases hlt : k < len
    · have hcell : wr.cell? ⟨b, off + k, none⟩ = some (.int .u8 (zs.getD k 0)) := (hnx.cell (by exact hb)).trans (hc k hlt)
      have hfr : wr.frozen? ⟨w.heap.size, k, none⟩ = false := HO.out.frozenAt k
      have hold : ∃ v, wr.cell? ⟨w.heap.size, k, none⟩ = some (.int .u8 v) := by
        have := HO.out.cellAt k (by omega)
        rw [List.getElem?_map, List.getElem?_eq_getElem (by have := Hxl.out; omega)] at this
        exact ⟨_, this⟩
      obtain ⟨vo, hold⟩ := hold
      go_wp2
      go_roundw
      case rel =>
        have hs := HO.out.stored k (.int .u8 (zs.getD k 0))
        refine ⟨k + 1, xs.set k (zs.getD k 0), by omega, by go_num, by simpa using Hxl.out, take_set_succ _ _ _ (by have := Hxl.out; omega) (by omega) Hxt.out, ?_, hnx.setCell (Nat.le_refl _) _⟩
        rw [List.map_set]
        exact hs.1
      case measure => simp [intOf]; omega
    · go_wp2
      go_ret
      have e : k = len := by omega
      subst e
      refine ⟨rfl, ?_, hnx⟩
      have h2 : xs = zs.take xs.length := by
        have := Hxt.out
        rw [← Hxl.out, List.take_length] at this
        exact this
      have h3 := HO.out
      rw [h2, Hxl.out] at h3
      exact h3

/-! ### headSize: function 12, and its shim: function 8 -/
/-- How many bytes the header takes whose second byte is z. -/
def hs (z : Int) : Int := 2 + (if z % 128 = 126 then 2 else if z % 128 = 127 then 8 else 0) + (if 128 ≤ z then 4 else 0)

theorem and127 (z : Int) (h0 : 0 ≤ z) (h1 : z ≤ 255) : bits .and .u8 z 127 = z % 128 := bits_mask .u8 8 (by decide) wraps_u8 7 (by decide) z h0 (by omega)
theorem and128_all : ∀ n : Fin 256, n.val &&& 128 = if 128 ≤ n.val then 128 else 0 := by decide +kernel
theorem and128 (z : Int) (h0 : 0 ≤ z) (h1 : z ≤ 255) : bits .and .u8 z 128 = if 128 ≤ z then 128 else 0 := by
  have h := and128_all ⟨z.toNat, by omega⟩
  rw [u8_and z 128 h0 (by omega) (by decide) (by decide)]
  simp only [] at h
  have e : (128 : Int).toNat = 128 := rfl
  rw [e, h]
  by_cases g : 128 ≤ z
  · rw [if_pos g, if_pos (by omega)]; rfl
  · rw [if_neg g, if_neg (by omega)]; rfl

set_option maxHeartbeats 800000 in
theorem hs12 (b off len cap : Nat) (z : Int) (w : World) (h0 : 0 ≤ z) (h1 : z ≤ 255) (hl : 2 ≤ len) (hc : w.cell? ⟨b, off + 1, none⟩ = some (.int .u8 z)) :
    Calls Try.prog 12 #[.slice (some ⟨b, off, none⟩) len cap] w fun e w' => e = .returned (.int .i64 (hs z)) ∧ w = w' := by
  have e1 := and127 z h0 h1
  have e2 := and128 z h0 h1
  unfold hs
  by_cases g1 : 128 ≤ z
  · rw [if_pos g1] at e2 ⊢
    by_cases g2 : z % 128 = 126
    · rw [if_pos g2]
      go_enter Try.func12, Try.ntmps12
      go_wp2
      go_ret
      exact ⟨rfl, rfl⟩
    · rw [if_neg g2]
      by_cases g3 : z % 128 = 127
      · rw [if_pos g3]
        go_enter Try.func12, Try.ntmps12
        go_wp2
        go_ret
        exact ⟨rfl, rfl⟩
      · rw [if_neg g3]
        go_enter Try.func12, Try.ntmps12
        go_wp2
        go_ret
        exact ⟨rfl, rfl⟩
  · rw [if_neg g1] at e2 ⊢
    by_cases g2 : z % 128 = 126
    · rw [if_pos g2]
      go_enter Try.func12, Try.ntmps12
      go_wp2
      go_ret
      exact ⟨rfl, rfl⟩
    · rw [if_neg g2]
      by_cases g3 : z % 128 = 127
      · rw [if_pos g3]
        go_enter Try.func12, Try.ntmps12
        go_wp2
        go_ret
        exact ⟨rfl, rfl⟩
      · rw [if_neg g3]
        go_enter Try.func12, Try.ntmps12
        go_wp2
        go_ret
        exact ⟨rfl, rfl⟩

theorem hs8 (b off len cap : Nat) (z : Int) (w : World) (h0 : 0 ≤ z) (h1 : z ≤ 255) (hl : 2 ≤ len) (hc : w.cell? ⟨b, off + 1, none⟩ = some (.int .u8 z)) :
    Calls Try.prog 8 #[.slice (some ⟨b, off, none⟩) len cap] w fun e w' => e = .returned (.int .i64 (hs z)) ∧ w = w' := by
  go_enter Try.func8, Try.ntmps8
  go_wp2_with (go_at_call 12; refine (hs12 b off len cap z _ h0 h1 hl hc).mono ?_; rintro e w' ⟨rfl, rfl⟩)
  go_ret
  exact ⟨rfl, rfl⟩

/-! ### From the shell's reading of a slice to its cells -/
theorem row_at {w : World} {x : Addr} {zs : List Int} (hp : 0 < zs.length) (hc : ∀ i, i < zs.length → w.cell? (x.add i) = some (.int .u8 (zs.getD i 0))) :
    ∃ b off, x = ⟨b, off, none⟩ ∧ b < w.heap.size ∧ ∀ t, t < zs.length → w.cell? ⟨b, off + t, none⟩ = some (.int .u8 (zs.getD t 0)) := by
  obtain ⟨b, off, spot⟩ := x
  have hspot : spot = none := by simpa [Addr.add] using World.cell?_spot (hc 0 hp)
  subst hspot
  have hc' : ∀ t, t < zs.length → w.cell? ⟨b, off + t, none⟩ = some (.int .u8 (zs.getD t 0)) := fun t ht => by rw [← add_plain]; exact hc t ht
  exact ⟨b, off, rfl, World.block_lt_of_cell? _ _ (hc' 0 hp), hc'⟩

theorem byte_bounds {zs : List Int} (hw : ∀ n ∈ zs, (Lit.int .u8 n).wf = true) (t : Nat) : 0 ≤ zs.getD t 0 ∧ zs.getD t 0 ≤ 255 := by
  by_cases ht : t < zs.length
  · have h := hw (zs.getD t 0) (by rw [List.getD_eq_getElem?_getD, List.getElem?_eq_getElem ht]; exact List.getElem_mem ht)
    simp only [Lit.wf, Bool.and_eq_true, decide_eq_true_eq] at h
    have hmin : IntKind.u8.min = 0 := rfl
    have hmax : IntKind.u8.max = 255 := rfl
    omega
  · rw [List.getD_eq_getElem?_getD, List.getElem?_eq_none (by omega)]
    simp

/-- The cell of the copy at place t. -/
theorem own_cell {w w1 : World} {len : Nat} {zs : List Int} (h : w1.ownsRow w.heap.size 5 1 (.slice (some ⟨w.heap.size, 0, none⟩) len len) len ((zs.take len).map (Value.int .u8))) (t : Nat) (ht : t < len) (hz : len ≤ zs.length) :
    w1.cell? ⟨w.heap.size, t, none⟩ = some (.int .u8 (zs.getD t 0)) := by
  rw [h.cellAt t (by omega)]
  simp [ht, show t < zs.length by omega, List.getD]
end Go.Proofs.Qxb6603879a
