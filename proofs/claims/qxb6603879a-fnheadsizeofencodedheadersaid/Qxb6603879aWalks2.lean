/- encodeHead (function 11), the bound of the third law (function 10), cloneBytes at every slice. -/
import Derived.Test.Qxb6603879aWalks
namespace Go.Proofs.Qxb6603879a
open Go.ChangeShapes Go.WideShapes Go.ChangeAt Go.RowKit

/-! ### The bound: function 10 (it boxes its array) -/
theorem zz10_yes (b0 n : Int) (m : Bool) (k0 k1 k2 k3 : Int) (a : Option Addr) (len cap : Nat) (w : World) (h : len ≤ 1048576) :
    Calls Try.prog 10 #[.int .u8 b0, .int .u64 n, .bool m, .agg #[.int .u8 k0, .int .u8 k1, .int .u8 k2, .int .u8 k3], .slice a len cap] w fun e w' => e = .returned (.bool true) ∧ Below w.heap.size w w' := by
  go_enter Try.func10, Try.ntmps10
  go_wp2
  go_ret
  exact ⟨rfl, (Below.refl _ _).alloc (Nat.le_refl _) _⟩
theorem zz10_no (b0 n : Int) (m : Bool) (k0 k1 k2 k3 : Int) (a : Option Addr) (len cap : Nat) (w : World) (h : ¬ len ≤ 1048576) :
    Calls Try.prog 10 #[.int .u8 b0, .int .u64 n, .bool m, .agg #[.int .u8 k0, .int .u8 k1, .int .u8 k2, .int .u8 k3], .slice a len cap] w fun e w' => e = .returned (.bool false) ∧ Below w.heap.size w w' := by
  go_enter Try.func10, Try.ntmps10
  go_wp2
  go_ret
  exact ⟨rfl, (Below.refl _ _).alloc (Nat.le_refl _) _⟩

/-! ### One byte appended to a row of the call's own, within its capacity -/
/-- The row so far: k bytes, the numbers L, at the head of block g; nothing below g has turned since W0. -/
def Hdr (W0 : World) (g cap k : Nat) (L : List Int) (w : World) : Prop :=
  w.ownsRow g 5 1 (.slice (some ⟨g, 0, none⟩) k cap) k (L.map (Value.int .u8)) ∧ Below g W0 w ∧ g ≤ W0.heap.size

theorem Hdr.push {W0 : World} {g cap k : Nat} {L : List Int} {w w' : World} {v : Int} (h : Hdr W0 g cap k L w)
    (hown : w'.ownsRow g 5 1 (.slice (some ⟨g, 0, none⟩) (k + 1) cap) (k + 1) (L.map (Value.int .u8) ++ [.int .u8 v]))
    (hgrow : (w.alloc (.cells #[.int .u8 v] 5)).grownBy w' (some g)) : Hdr W0 g cap (k + 1) (L ++ [v]) w' := by
  have h1 := h.2.1.size
  have h2 := h.2.2
  refine ⟨by simpa using hown, (h.2.1.alloc (by omega) _).grown hgrow ?_ (fun j hj => by cases hj; exact Nat.le_refl _), h2⟩
  simp
  omega

theorem wpList_push {w : World} {ops : Array Oper} {rest : List Oper} {o : Oper} {a : Act} {Q : Exit → Act → World → Prop}
    (hg : o.guard = none) (s x : Operand) (hop : o.op = Op.call { callee := Callee.builtin Builtin.append, args := #[s, x], argTypes := #[22, 22] })
    (W0 : World) (g k cap : Nat) (L : List Int) (v : Int) (hs : a.eval s = .slice (some ⟨g, 0, none⟩) k cap) (h : Hdr W0 g cap k L w)
    (hx : a.eval x = .slice (some ⟨w.heap.size, 0, none⟩) 1 1) (b1 : k + 1 ≤ cap)
    (hK : ∀ w', Hdr W0 g cap (k + 1) (L ++ [v]) w' → wpList Try.prog ops Q rest (a.put o.dst (.slice (some ⟨g, 0, none⟩) (k + 1) cap)) w') :
    wpList Try.prog ops Q (o :: rest) a (w.alloc (.cells #[.int .u8 v] 5)) := by
  obtain ⟨i0, hi, hz0, hz1, hz2⟩ := info_parts Try.info5
  refine wpList_append_fits _ hg s x 22 hop g 5 i0 1 Try.underlying22 hi hz1 g k cap _ hs (h.1.alloc _) ⟨w.heap.size, 0, none⟩ 1 1 [.int .u8 v] hx rfl ?_ ?_ b1 ?_
  · exact cell_one_new _ _ _
  · intro u hu
    simp at hu
    subst hu
    rfl
  · intro w' hown hgrow
    exact hK w' (h.push hown hgrow)

/-- A row that 'make' has just laid: nothing in it yet. -/
theorem Hdr.start {W0 w' : World} {g cap : Nat} (hg : g = W0.heap.size) (hown : w'.ownsRow g 5 1 (.slice (some ⟨g, 0, none⟩) 0 cap) 0 []) (hgrow : W0.grownBy w' none) : Hdr W0 g cap 0 [] w' :=
  ⟨by simpa using hown, (Below.refl _ _).grown hgrow (by omega) (fun k h => by cases h), by omega⟩

/-- What lies below g reads as it did. -/
theorem Hdr.keys {W0 : World} {g cap k : Nat} {L : List Int} {w : World} (h : Hdr W0 g cap k L w) {B : Nat} (hB : B < g) {k0 k1 k2 k3 : Int}
    (c : W0.cell? ⟨B, 0, none⟩ = some (.int .u8 k0) ∧ W0.cell? ⟨B, 1, none⟩ = some (.int .u8 k1) ∧ W0.cell? ⟨B, 2, none⟩ = some (.int .u8 k2) ∧ W0.cell? ⟨B, 3, none⟩ = some (.int .u8 k3)) :
    w.cell? ⟨B, 0, none⟩ = some (.int .u8 k0) ∧ w.cell? ⟨B, 1, none⟩ = some (.int .u8 k1) ∧ w.cell? ⟨B, 2, none⟩ = some (.int .u8 k2) ∧ w.cell? ⟨B, 3, none⟩ = some (.int .u8 k3) ∧ B < w.heap.size :=
  ⟨(h.2.1.cell (p := ⟨B, 0, none⟩) hB).trans c.1, (h.2.1.cell (p := ⟨B, 1, none⟩) hB).trans c.2.1, (h.2.1.cell (p := ⟨B, 2, none⟩) hB).trans c.2.2.1, (h.2.1.cell (p := ⟨B, 3, none⟩) hB).trans c.2.2.2, by
    have h1 := h.2.1.size
    have h2 := h.2.2
    omega⟩

theorem hidIt {p : Prop} (h : p) : Hid p := h

/-! ### encodeHead -/
theorem or128b_all : ∀ n : Fin 126, 128 ||| n.val = n.val + 128 := by decide +kernel
theorem or128b (n : Int) (h0 : 0 ≤ n) (h1 : n ≤ 125) : bits .or .u8 128 n = n + 128 := by
  have h := or128b_all ⟨n.toNat, by omega⟩
  rw [u8_or 128 n (by decide) (by decide) h0 (by omega)]
  simp only [] at h
  have e : (128 : Int).toNat = 128 := rfl
  rw [e, h]
  omega
theorem or0b (n : Int) (h0 : 0 ≤ n) (h1 : n ≤ 125) : bits .or .u8 0 n = n := by
  rw [u8_or 0 n (by decide) (by decide) h0 (by omega)]
  simp
  omega
theorem or_lits : bits .or .u8 128 126 = 254 ∧ bits .or .u8 128 127 = 255 ∧ bits .or .u8 0 126 = 126 ∧ bits .or .u8 0 127 = 127 := by decide +kernel

theorem hdr_getD {W0 : World} {g cap k : Nat} {L : List Int} {w : World} (h : Hdr W0 g cap k L w) (v z : Int) (hk : 2 ≤ k) (hz : L.getD 1 0 = z) : (L ++ [v]).getD 1 0 = z := by
  have hl : L.length = k := by simpa using h.1.1
  rw [List.getD_eq_getElem?_getD, List.getElem?_append_left (by omega), ← List.getD_eq_getElem?_getD]
  exact hz

theorem getD1 {L M : List Int} {z : Int} (h : 2 ≤ L.length) (hz : L.getD 1 0 = z) : (L ++ M).getD 1 0 = z := by
  rw [List.getD_eq_getElem?_getD, List.getElem?_append_left (by omega), ← List.getD_eq_getElem?_getD]
  exact hz
theorem hdr_len {W0 : World} {g cap k : Nat} {L : List Int} {w : World} (h : Hdr W0 g cap k L w) : L.length = k := by simpa using h.1.1

/-- The array, boxed. -/
abbrev boxed (w : World) (k0 k1 k2 k3 : Int) : World := w.alloc (.cells #[.int .u8 k0, .int .u8 k1, .int .u8 k2, .int .u8 k3] 27)

theorem boxed_keys (w : World) (k0 k1 k2 k3 : Int) : Hid ((boxed w k0 k1 k2 k3).cell? ⟨w.heap.size, 0, none⟩ = some (.int .u8 k0) ∧ (boxed w k0 k1 k2 k3).cell? ⟨w.heap.size, 1, none⟩ = some (.int .u8 k1) ∧
    (boxed w k0 k1 k2 k3).cell? ⟨w.heap.size, 2, none⟩ = some (.int .u8 k2) ∧ (boxed w k0 k1 k2 k3).cell? ⟨w.heap.size, 3, none⟩ = some (.int .u8 k3)) := by
  refine hidIt ⟨?_, ?_, ?_, ?_⟩ <;> simp [boxed]

set_option maxHeartbeats 1600000 in
theorem enc_small_m (b0 n : Int) (k0 k1 k2 k3 : Int) (w : World) (h0 : 0 ≤ n) (h1 : n ≤ 125) :
    Calls Try.prog 11 #[.int .u8 b0, .int .u64 n, .bool true, .agg #[.int .u8 k0, .int .u8 k1, .int .u8 k2, .int .u8 k3]] w fun e w' =>
      ∃ L : List Int, e = .returned (.slice (some ⟨w.heap.size + 1, 0, none⟩) 6 16) ∧ Hdr (boxed w k0 k1 k2 k3) (w.heap.size + 1) 16 6 L w' ∧ L.getD 1 0 = n + 128 := by
  obtain ⟨i0, hi, hz0, hz1, hz2⟩ := info_parts Try.info5
  have eor := or128b n h0 h1
  have HK := boxed_keys w k0 k1 k2 k3
  go_enter Try.func11, Try.ntmps11
  go_wp2_with (at_make; refine wpList_make_own _ rfl _ _ 22 rfl (w.heap.size + 1) 5 i0 (.int .u8 0) 1 Try.underlying22 hi hz0 hz1 _ _ _ 16 rfl rfl rfl ?b2 ?b3 ?b4 ?_)
  case b2 => rw [hz2]; omega
  case b3 => unfold maxLen; omega
  case b4 => simp
  intro w0 hown0 hgrow0
  have H0 := Hdr.start (by simp) hown0 hgrow0
  clear hown0 hgrow0
  go_wp2_with (at_builtin; refine wpList_push rfl _ _ rfl _ _ _ 16 _ _ rfl (by assumption) rfl (by omega) ?_; intro w' hH; obtain ⟨c0, c1, c2, c3, hB⟩ := hH.keys (Nat.lt_succ_self _) HK.out)
  go_ret
  exact ⟨_, rfl, by assumption, rfl⟩

set_option maxHeartbeats 1600000 in
theorem enc_small_p (b0 n : Int) (k0 k1 k2 k3 : Int) (w : World) (h0 : 0 ≤ n) (h1 : n ≤ 125) :
    Calls Try.prog 11 #[.int .u8 b0, .int .u64 n, .bool false, .agg #[.int .u8 k0, .int .u8 k1, .int .u8 k2, .int .u8 k3]] w fun e w' =>
      ∃ L : List Int, e = .returned (.slice (some ⟨w.heap.size + 1, 0, none⟩) 2 16) ∧ Hdr (boxed w k0 k1 k2 k3) (w.heap.size + 1) 16 2 L w' ∧ L.getD 1 0 = n := by
  obtain ⟨i0, hi, hz0, hz1, hz2⟩ := info_parts Try.info5
  have eor := or0b n h0 h1
  go_enter Try.func11, Try.ntmps11
  go_wp2_with (at_make; refine wpList_make_own _ rfl _ _ 22 rfl (w.heap.size + 1) 5 i0 (.int .u8 0) 1 Try.underlying22 hi hz0 hz1 _ _ _ 16 rfl rfl rfl ?b2 ?b3 ?b4 ?_)
  case b2 => rw [hz2]; omega
  case b3 => unfold maxLen; omega
  case b4 => simp
  intro w0 hown0 hgrow0
  have H0 := Hdr.start (by simp) hown0 hgrow0
  clear hown0 hgrow0
  go_wp2_with (at_builtin; refine wpList_push rfl _ _ rfl _ _ _ 16 _ _ rfl (by assumption) rfl (by omega) ?_; intro w' hH)
  go_ret
  exact ⟨_, rfl, by assumption, rfl⟩

set_option maxHeartbeats 1600000 in
theorem enc_mid_m (b0 n : Int) (k0 k1 k2 k3 : Int) (w : World) (h0 : 126 ≤ n) (h1 : n ≤ 65535) :
    Calls Try.prog 11 #[.int .u8 b0, .int .u64 n, .bool true, .agg #[.int .u8 k0, .int .u8 k1, .int .u8 k2, .int .u8 k3]] w fun e w' =>
      ∃ L : List Int, e = .returned (.slice (some ⟨w.heap.size + 1, 0, none⟩) 8 16) ∧ Hdr (boxed w k0 k1 k2 k3) (w.heap.size + 1) 16 8 L w' ∧ L.getD 1 0 = 254 := by
  obtain ⟨i0, hi, hz0, hz1, hz2⟩ := info_parts Try.info5
  have eor := or_lits.1
  have HK := boxed_keys w k0 k1 k2 k3
  go_enter Try.func11, Try.ntmps11
  go_wp2_with (at_make; refine wpList_make_own _ rfl _ _ 22 rfl (w.heap.size + 1) 5 i0 (.int .u8 0) 1 Try.underlying22 hi hz0 hz1 _ _ _ 16 rfl rfl rfl ?b2 ?b3 ?b4 ?_)
  case b2 => rw [hz2]; omega
  case b3 => unfold maxLen; omega
  case b4 => simp
  intro w0 hown0 hgrow0
  have H0 := Hdr.start (by simp) hown0 hgrow0
  clear hown0 hgrow0
  go_wp2_with (at_builtin; refine wpList_push rfl _ _ rfl _ _ _ 16 _ _ rfl (by assumption) rfl (by omega) ?_; intro w' hH; obtain ⟨c0, c1, c2, c3, hB⟩ := hH.keys (Nat.lt_succ_self _) HK.out)
  go_ret
  exact ⟨_, rfl, by assumption, rfl⟩

set_option maxHeartbeats 1600000 in
theorem enc_mid_p (b0 n : Int) (k0 k1 k2 k3 : Int) (w : World) (h0 : 126 ≤ n) (h1 : n ≤ 65535) :
    Calls Try.prog 11 #[.int .u8 b0, .int .u64 n, .bool false, .agg #[.int .u8 k0, .int .u8 k1, .int .u8 k2, .int .u8 k3]] w fun e w' =>
      ∃ L : List Int, e = .returned (.slice (some ⟨w.heap.size + 1, 0, none⟩) 4 16) ∧ Hdr (boxed w k0 k1 k2 k3) (w.heap.size + 1) 16 4 L w' ∧ L.getD 1 0 = 126 := by
  obtain ⟨i0, hi, hz0, hz1, hz2⟩ := info_parts Try.info5
  have eor := or_lits.2.2.1
  go_enter Try.func11, Try.ntmps11
  go_wp2_with (at_make; refine wpList_make_own _ rfl _ _ 22 rfl (w.heap.size + 1) 5 i0 (.int .u8 0) 1 Try.underlying22 hi hz0 hz1 _ _ _ 16 rfl rfl rfl ?b2 ?b3 ?b4 ?_)
  case b2 => rw [hz2]; omega
  case b3 => unfold maxLen; omega
  case b4 => simp
  intro w0 hown0 hgrow0
  have H0 := Hdr.start (by simp) hown0 hgrow0
  clear hown0 hgrow0
  go_wp2_with (at_builtin; refine wpList_push rfl _ _ rfl _ _ _ 16 _ _ rfl (by assumption) rfl (by omega) ?_; intro w' hH)
  go_ret
  exact ⟨_, rfl, by assumption, rfl⟩

set_option maxHeartbeats 1600000 in
theorem enc_large_m (b0 n : Int) (k0 k1 k2 k3 : Int) (w : World) (h0 : 65536 ≤ n) (h1 : n ≤ 18446744073709551615) :
    Calls Try.prog 11 #[.int .u8 b0, .int .u64 n, .bool true, .agg #[.int .u8 k0, .int .u8 k1, .int .u8 k2, .int .u8 k3]] w fun e w' =>
      ∃ L : List Int, e = .returned (.slice (some ⟨w.heap.size + 1, 0, none⟩) 14 16) ∧ Hdr (boxed w k0 k1 k2 k3) (w.heap.size + 1) 16 14 L w' ∧ L.getD 1 0 = 255 := by
  obtain ⟨i0, hi, hz0, hz1, hz2⟩ := info_parts Try.info5
  have eor := or_lits.2.1
  have HK := boxed_keys w k0 k1 k2 k3
  go_enter Try.func11, Try.ntmps11
  go_wp2_with (at_make; refine wpList_make_own _ rfl _ _ 22 rfl (w.heap.size + 1) 5 i0 (.int .u8 0) 1 Try.underlying22 hi hz0 hz1 _ _ _ 16 rfl rfl rfl ?b2 ?b3 ?b4 ?_)
  case b2 => rw [hz2]; omega
  case b3 => unfold maxLen; omega
  case b4 => simp
  intro w0 hown0 hgrow0
  have H0 := Hdr.start (by simp) hown0 hgrow0
  clear hown0 hgrow0
  go_wp2_with (at_builtin; refine wpList_push rfl _ _ rfl _ _ _ 16 _ _ rfl (by assumption) rfl (by omega) ?_; intro w' hH; obtain ⟨c0, c1, c2, c3, hB⟩ := hH.keys (Nat.lt_succ_self _) HK.out)
  have H2 : ∃ L, Hdr (boxed w k0 k1 k2 k3) (w.heap.size + 1) 16 2 L w' ∧ L.getD 1 0 = 255 := ⟨_, by assumption, rfl⟩
  obtain ⟨L2, H2, HL2⟩ := H2
  clear H0
  go_loopw [9, 11] (fun h i wr => ∃ (j : Nat) (L : List Int), j ≤ 8 ∧ i = .int .i64 (7 - (j : Int)) ∧ h = .slice (some ⟨w.heap.size + 1, 0, none⟩) (2 + j) 16 ∧ Hdr (boxed w k0 k1 k2 k3) (w.heap.size + 1) 16 (2 + j) L wr ∧ L.getD 1 0 = 255)
    (fun _ i _ => (intOf i + 1).toNat)
  case atStart => exact ⟨0, L2, by omega, rfl, rfl, H2, HL2⟩
  case round =>
    obtain ⟨j, L, hj, rfl, rfl, hH, hL⟩ := hrel
    have HL := hidIt hL
    clear hL H2 HL2
    by_cases hlt : j < 8
    · go_wp2_with (at_builtin; refine wpList_push rfl _ _ rfl _ _ _ 16 _ _ rfl (by assumption) rfl (by omega) ?_; intro w3 hH3)
      go_roundw
      case rel => exact ⟨j + 1, _, by omega, by go_num, rfl, hH3, hdr_getD hH _ _ (by omega) HL.out⟩
      case measure => simp [intOf]; omega
    · obtain rfl : j = 8 := by omega
      obtain ⟨c0, c1, c2, c3, hB⟩ := hH.keys (Nat.lt_succ_self _) HK.out
      have HL' : Hid (2 ≤ L.length) := hidIt (by have := hdr_len hH; omega)
      go_wp2_with (at_builtin; refine wpList_push rfl _ _ rfl _ _ _ 16 _ _ rfl (by assumption) rfl (by omega) ?_; intro w' hH; obtain ⟨c0, c1, c2, c3, hB⟩ := hH.keys (Nat.lt_succ_self _) HK.out)
      go_ret
      refine ⟨_, rfl, by assumption, ?_⟩
      rw [List.append_assoc, List.append_assoc, List.append_assoc]
      exact getD1 HL'.out HL.out

set_option maxHeartbeats 1600000 in
theorem enc_large_p (b0 n : Int) (k0 k1 k2 k3 : Int) (w : World) (h0 : 65536 ≤ n) (h1 : n ≤ 18446744073709551615) :
    Calls Try.prog 11 #[.int .u8 b0, .int .u64 n, .bool false, .agg #[.int .u8 k0, .int .u8 k1, .int .u8 k2, .int .u8 k3]] w fun e w' =>
      ∃ L : List Int, e = .returned (.slice (some ⟨w.heap.size + 1, 0, none⟩) 10 16) ∧ Hdr (boxed w k0 k1 k2 k3) (w.heap.size + 1) 16 10 L w' ∧ L.getD 1 0 = 127 := by
  obtain ⟨i0, hi, hz0, hz1, hz2⟩ := info_parts Try.info5
  have eor := or_lits.2.2.2
  go_enter Try.func11, Try.ntmps11
  go_wp2_with (at_make; refine wpList_make_own _ rfl _ _ 22 rfl (w.heap.size + 1) 5 i0 (.int .u8 0) 1 Try.underlying22 hi hz0 hz1 _ _ _ 16 rfl rfl rfl ?b2 ?b3 ?b4 ?_)
  case b2 => rw [hz2]; omega
  case b3 => unfold maxLen; omega
  case b4 => simp
  intro w0 hown0 hgrow0
  have H0 := Hdr.start (by simp) hown0 hgrow0
  clear hown0 hgrow0
  go_wp2_with (at_builtin; refine wpList_push rfl _ _ rfl _ _ _ 16 _ _ rfl (by assumption) rfl (by omega) ?_; intro w' hH)
  have H2 : ∃ L, Hdr (boxed w k0 k1 k2 k3) (w.heap.size + 1) 16 2 L w' ∧ L.getD 1 0 = 127 := ⟨_, by assumption, rfl⟩
  obtain ⟨L2, H2, HL2⟩ := H2
  clear H0
  go_loopw [9, 11] (fun h i wr => ∃ (j : Nat) (L : List Int), j ≤ 8 ∧ i = .int .i64 (7 - (j : Int)) ∧ h = .slice (some ⟨w.heap.size + 1, 0, none⟩) (2 + j) 16 ∧ Hdr (boxed w k0 k1 k2 k3) (w.heap.size + 1) 16 (2 + j) L wr ∧ L.getD 1 0 = 127)
    (fun _ i _ => (intOf i + 1).toNat)
  case atStart => exact ⟨0, L2, by omega, rfl, rfl, H2, HL2⟩
  case round =>
    obtain ⟨j, L, hj, rfl, rfl, hH, hL⟩ := hrel
    have HL := hidIt hL
    clear hL H2 HL2
    by_cases hlt : j < 8
    · go_wp2_with (at_builtin; refine wpList_push rfl _ _ rfl _ _ _ 16 _ _ rfl (by assumption) rfl (by omega) ?_; intro w3 hH3)
      go_roundw
      case rel => exact ⟨j + 1, _, by omega, by go_num, rfl, hH3, hdr_getD hH _ _ (by omega) HL.out⟩
      case measure => simp [intOf]; omega
    · obtain rfl : j = 8 := by omega
      go_wp2_with fail
      go_ret
      exact ⟨_, rfl, hH, HL.out⟩

theorem hs_small (n : Int) (h0 : 0 ≤ n) (h1 : n ≤ 125) : hs n = 2 ∧ hs (n + 128) = 6 := by
  unfold hs
  constructor
  · rw [if_neg (by omega), if_neg (by omega), if_neg (by omega)]; rfl
  · rw [if_neg (by omega), if_neg (by omega), if_pos (by omega)]; rfl

/-- encodeHead at every input: as many bytes as headSize reads off the second. -/
theorem enc_any (b0 n : Int) (m : Bool) (k0 k1 k2 k3 : Int) (w : World) (h0 : 0 ≤ n) (h1 : n ≤ 18446744073709551615) :
    Calls Try.prog 11 #[.int .u8 b0, .int .u64 n, .bool m, .agg #[.int .u8 k0, .int .u8 k1, .int .u8 k2, .int .u8 k3]] w fun e w' =>
      ∃ (k : Nat) (L : List Int) (z : Int), e = .returned (.slice (some ⟨w.heap.size + 1, 0, none⟩) k 16) ∧ Hdr (boxed w k0 k1 k2 k3) (w.heap.size + 1) 16 k L w' ∧ L.getD 1 0 = z ∧ 0 ≤ z ∧ z ≤ 255 ∧ hs z = k ∧ 2 ≤ k ∧ k ≤ 14 := by
  by_cases a : n ≤ 125
  · have hh := hs_small n h0 a
    cases m with
    | true => exact (enc_small_m b0 n k0 k1 k2 k3 w h0 a).mono fun e w' ⟨L, he, hH, hL⟩ => ⟨6, L, _, he, hH, hL, by omega, by omega, hh.2, by omega, by omega⟩
    | false => exact (enc_small_p b0 n k0 k1 k2 k3 w h0 a).mono fun e w' ⟨L, he, hH, hL⟩ => ⟨2, L, _, he, hH, hL, by omega, by omega, hh.1, by omega, by omega⟩
  · by_cases c : n ≤ 65535
    · cases m with
      | true => exact (enc_mid_m b0 n k0 k1 k2 k3 w (by omega) c).mono fun e w' ⟨L, he, hH, hL⟩ => ⟨8, L, _, he, hH, hL, by omega, by omega, rfl, by omega, by omega⟩
      | false => exact (enc_mid_p b0 n k0 k1 k2 k3 w (by omega) c).mono fun e w' ⟨L, he, hH, hL⟩ => ⟨4, L, _, he, hH, hL, by omega, by omega, rfl, by omega, by omega⟩
    · cases m with
      | true => exact (enc_large_m b0 n k0 k1 k2 k3 w (by omega) h1).mono fun e w' ⟨L, he, hH, hL⟩ => ⟨14, L, _, he, hH, hL, by omega, by omega, rfl, by omega, by omega⟩
      | false => exact (enc_large_p b0 n k0 k1 k2 k3 w (by omega) h1).mono fun e w' ⟨L, he, hH, hL⟩ => ⟨10, L, _, he, hH, hL, by omega, by omega, rfl, by omega, by omega⟩

/-! ### cloneBytes at every slice -/
theorem clone_nil (w : World) : Calls Try.prog 7 #[.slice none 0 0] w fun e w' => e = .returned (.slice none 0 0) ∧ w = w' := by
  have q22 : ∀ (w : World) (a : Option Addr) (n c n' c' : Nat), (binOp .eql 22 (.slice a n c) (.slice none n' c')).run Try.prog w = .ok (.bool a.isNone) w := fun w a n c n' c' => Lib.run_eql_slice_nil w _ _ a n c n' c' Try.underlying22
  go_enter Try.func7, Try.ntmps7
  go_wp2
  go_ret
  exact ⟨rfl, rfl⟩

theorem clone_zero (x : Addr) (cap : Nat) (w : World) : Calls Try.prog 7 #[.slice (some x) 0 cap] w fun e w' => e = .returned (.slice (some ⟨w.heap.size, 0, none⟩) 0 0) ∧ Below w.heap.size w w' := by
  obtain ⟨i0, hi, hz0, hz1, hz2⟩ := info_parts Try.info5
  have q22 : ∀ (w : World) (a : Option Addr) (n c n' c' : Nat), (binOp .eql 22 (.slice a n c) (.slice none n' c')).run Try.prog w = .ok (.bool a.isNone) w := fun w a n c n' c' => Lib.run_eql_slice_nil w _ _ a n c n' c' Try.underlying22
  go_enter Try.func7, Try.ntmps7
  go_wp2_with (at_make; refine wpList_make_full _ rfl _ _ 22 rfl w.heap.size 5 i0 (.int .u8 0) 1 Try.underlying22 hi hz0 hz1 _ _ _ _ 0 rfl rfl rfl rfl ?b2 ?b3 (Nat.le_refl _) ?_)
  case b2 => omega
  case b3 => unfold maxLen; omega
  intro w0 hown0 hgrow0
  clear hown0
  go_wp2
  refine wp_loop_rounds 1 ?_
  rw [rounds_succ]
  go_wp2
  go_ret
  exact ⟨rfl, (Below.refl _ _).grown hgrow0 (Nat.le_refl _) (fun k h => by cases h)⟩

/-- What a copy is: a slice of the same length; where it has an element, its cells are the original's. -/
theorem clone_any (a : Option Addr) (len cap : Nat) (zs : List Int) (w : World) (hl : len ≤ 1048576) (hz : len ≤ zs.length) (hn : a = none → len = 0 ∧ cap = 0)
    (hc : ∀ x, a = some x → ∀ t, t < zs.length → w.cell? (x.add t) = some (.int .u8 (zs.getD t 0))) :
    Calls Try.prog 7 #[.slice a len cap] w fun e w' => ∃ ao : Option Addr, e = .returned (.slice ao len len) ∧ Below w.heap.size w w' ∧
      (0 < len → ao = some ⟨w.heap.size, 0, none⟩ ∧ ∀ t, t < len → w'.cell? ⟨w.heap.size, t, none⟩ = some (.int .u8 (zs.getD t 0))) := by
  cases a with
  | none =>
    obtain ⟨rfl, rfl⟩ := hn rfl
    exact (clone_nil w).mono fun e w' ⟨he, hw⟩ => ⟨none, he, by subst hw; exact Below.refl _ _, fun h => by omega⟩
  | some x =>
    by_cases hp : len = 0
    · subst hp
      exact (clone_zero x cap w).mono fun e w' ⟨he, hb⟩ => ⟨_, he, hb, fun h => by omega⟩
    · obtain ⟨b, off, rfl, hb, hcc⟩ := row_at (by omega) (hc x rfl)
      exact (clone_some b off len cap zs w hl hz hb (fun t ht => hcc t (by omega))).mono fun e w' ⟨he, hown, hbel⟩ => ⟨_, he, hbel, fun _ => ⟨rfl, fun t ht => own_cell hown t ht hz⟩⟩
end Go.Proofs.Qxb6603879a
