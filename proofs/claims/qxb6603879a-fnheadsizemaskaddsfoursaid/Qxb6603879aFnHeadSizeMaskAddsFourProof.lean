/- The proof of 'Rows.FnHeadSizeMaskAddsFourSaid': the frame by the kit's shell, the walk typed by hand. -/
import Derived.Test.Qxb6603879aRows
import Derived.Test.Qxb6603879aWalks
import Derived.BigRegion
import Derived.WalkKit
import Derived.ProofKit
import Derived.OpenShut
import Derived.ShutString
import Derived.ChangeOld
import Derived.Below
namespace Go.Proofs.Qxb6603879a.fnHeadSizeMaskAddsFour
open Go.ChangeShapes Go.WideShapes Go.ChangeAt Go.RowKit
open Go.ChangeMaps (open_string shut_string)
set_option linter.unusedVariables false

theorem own : ownKnob Try.prog.godebug = none := by kernel_rfl
theorem laidOut : laidOutB Try.prog = true := by kernel_rfl

/-- WHAT THE WALK IS TOLD OF A SLICE OF INTEGERS THAT CAME IN: it is nil; or it leads to a row of 'cap' cells, the numbers 'zs' (the first 'len' are its elements, the rest its spare room), each fitting its kind. -/
def IsRow (k : IntKind) (w : World) (a : Option Addr) (len cap : Nat) (zs : List Int) : Prop :=
  (a = none ∧ len = 0 ∧ cap = 0 ∧ zs = []) ∨
  ∃ x, a = some x ∧ len ≤ cap ∧ cap ≤ maxLen ∧ zs.length = cap ∧ (∀ i, i < zs.length → w.cell? (x.add i) = some (.int k (zs.getD i 0))) ∧ ∀ n ∈ zs, (Lit.int k n).wf = true

/-! ### STEP 1: THE WALK: the Go text returns true, AND WRITES NOTHING THAT WAS THERE: 'Below w.heap.size w w'' (Derived/Below.lean: '.refl', '.alloc', '.drew', '.setCell' at a new block, '.trans'). Open each 'IsRow' by 'rcases' AHEAD of 'go_enter'; part every test ahead of the walk. -/
theorem zz9_yes (a : Option Addr) (len cap : Nat) (w : World) (h : len ≤ 1048576) :
    Calls Try.prog 9 #[.slice a len cap] w fun e w' => e = .returned (.bool true) ∧ w = w' := by
  go_enter Try.func9, Try.ntmps9
  go_wp2
  go_ret
  exact ⟨rfl, rfl⟩
theorem zz9_no (a : Option Addr) (len cap : Nat) (w : World) (h : ¬ len ≤ 1048576) :
    Calls Try.prog 9 #[.slice a len cap] w fun e w' => e = .returned (.bool false) ∧ w = w' := by
  go_enter Try.func9, Try.ntmps9
  go_wp2
  go_ret
  exact ⟨rfl, rfl⟩

theorem or128_all : ∀ n : Fin 256, n.val ||| 128 = if 128 ≤ n.val then n.val else n.val + 128 := by decide +kernel
theorem or128 (z : Int) (h0 : 0 ≤ z) (h1 : z ≤ 255) : bits .or .u8 z 128 = if 128 ≤ z then z else z + 128 := by
  have h := or128_all ⟨z.toNat, by omega⟩
  rw [u8_or z 128 h0 (by omega) (by decide) (by decide)]
  simp only [] at h
  have e : (128 : Int).toNat = 128 := rfl
  rw [e, h]
  by_cases g : 128 ≤ z
  · rw [if_pos g, if_pos (by omega)]; omega
  · rw [if_neg g, if_neg (by omega)]; omega

theorem hs_lo (z : Int) : 2 ≤ hs z := by
  unfold hs
  by_cases a : z % 128 = 126 <;> by_cases b : z % 128 = 127 <;> by_cases c : 128 ≤ z <;> simp [a, b, c]
theorem hs_hi (z : Int) (h : z < 128) : hs z ≤ 10 := by
  unfold hs
  have c : ¬ 128 ≤ z := by omega
  by_cases a : z % 128 = 126 <;> by_cases b : z % 128 = 127 <;> simp [a, b, c]
theorem hs_up (z : Int) (h0 : 128 ≤ z) (h1 : z ≤ 255) : hs z = hs (z % 128) + 4 := by
  unfold hs
  rw [if_pos h0, if_neg (show ¬ 128 ≤ z % 128 by omega), Int.emod_emod]
  omega

theorem walk_short (a0 : Option Addr) (len0 cap0 : Nat) (w : World) (h : len0 < 2) :
    Calls Try.prog 4 #[.slice a0 len0 cap0] w fun e w' => e = .returned (.bool true) ∧ Below w.heap.size w w' := by
  go_enter Try.func4, Try.ntmps4
  go_wp2_with (go_at_call 9; refine (zz9_yes _ _ _ _ (by omega)).mono ?_; rintro e w' ⟨rfl, rfl⟩)
  go_ret
  exact ⟨rfl, Below.refl _ _⟩

theorem walk_long (a0 : Option Addr) (len0 cap0 : Nat) (w : World) (h : ¬ len0 ≤ 1048576) :
    Calls Try.prog 4 #[.slice a0 len0 cap0] w fun e w' => e = .returned (.bool true) ∧ Below w.heap.size w w' := by
  go_enter Try.func4, Try.ntmps4
  go_wp2_with (go_at_call 9; refine (zz9_no _ _ _ _ h).mono ?_; rintro e w' ⟨rfl, rfl⟩)
  go_ret
  exact ⟨rfl, Below.refl _ _⟩

set_option maxHeartbeats 1600000 in
theorem walk_mid (b off len cap : Nat) (zs : List Int) (y z : Int) (w : World) (hl2 : 2 ≤ len) (hl : len ≤ 1048576) (hz : len ≤ zs.length) (hb : b < w.heap.size)
    (hc : ∀ t, t < len → w.cell? ⟨b, off + t, none⟩ = some (.int .u8 (zs.getD t 0))) (ey : Hid (zs.getD 0 0 = y)) (ez : Hid (zs.getD 1 0 = z)) (h0 : 0 ≤ z) (h1 : z ≤ 255)
    (p q : Int) (ep : bits .or .u8 z 128 = p) (eq : bits .and .u8 z 127 = q) (hp0 : 0 ≤ p) (hp1 : p ≤ 255) (hq0 : 0 ≤ q) (hq1 : q ≤ 255)
    (epq : hs p = hs q + 4) (hq2 : 2 ≤ hs q) (hq3 : hs q ≤ 10) (hend : (128 ≤ z ∧ hs z = hs q + 4) ∨ (z < 128 ∧ hs z = hs q)) :
    Calls Try.prog 4 #[.slice (some ⟨b, off, none⟩) len cap] w fun e w' => e = .returned (.bool true) ∧ Below w.heap.size w w' := by
  go_enter Try.func4, Try.ntmps4
  go_wp2_with (first | (go_at_call 9; refine (zz9_yes _ _ _ _ hl).mono ?_; rintro e w' ⟨rfl, rfl⟩))
  refine (clone_some b off len cap zs w hl hz hb hc).mono ?_
  rintro e w1 ⟨rfl, hown, hbel⟩
  have hcell0 : w1.cell? ⟨w.heap.size, 0, none⟩ = some (.int .u8 y) := by rw [own_cell hown 0 (by omega) hz, ey.out]
  have hcell : w1.cell? ⟨w.heap.size, 1, none⟩ = some (.int .u8 z) := by rw [own_cell hown 1 (by omega) hz, ez.out]
  have hsz : w.heap.size < w1.heap.size := World.block_lt_of_cell? _ _ hcell
  have hl0 : (0 : Int) < (len : Int) := by omega
  have hl1 : (1 : Int) < (len : Int) := by omega
  clear hown hc
  go_wp2_with fail
  go_region
  go_wp2_with fail
  go_region
  go_wp2_with fail
  refine (hs8 w1.heap.size 0 2 2 p _ hp0 hp1 (by omega) (by simp)).mono ?_
  rintro e w2 ⟨rfl, rfl⟩
  go_wp2_with fail
  refine (hs8 (w1.heap.size + 1) 0 2 2 q _ hq0 hq1 (by omega) (by simp)).mono ?_
  rintro e w2 ⟨rfl, rfl⟩
  go_wp2_with fail
  refine (hs8 w.heap.size 0 len len z _ h0 h1 hl2 (by exact cell_later (((Below.refl _ _).alloc (Nat.le_refl _) _).alloc (by simp) _).drew.drew hcell)).mono ?_
  rintro e w2 ⟨rfl, rfl⟩
  rcases hend with ⟨g, ez'⟩ | ⟨g, ez'⟩
  · go_wp2_with fail
    go_ret
    exact ⟨rfl, ((hbel.alloc (by omega) _).alloc (by simp; omega) _).drew.drew⟩
  · go_wp2_with fail
    go_ret
    exact ⟨rfl, ((hbel.alloc (by omega) _).alloc (by simp; omega) _).drew.drew⟩

theorem walk (a0 : Option Addr) (len0 cap0 : Nat) (z0 : List Int) (w : World) (w0 : IsRow .u8 w a0 len0 cap0 z0) :
    Calls Try.prog 4 #[.slice a0 len0 cap0] w fun e w' => e = .returned (.bool true) ∧ Below w.heap.size w w' := by
  by_cases hs2 : len0 < 2
  · exact walk_short a0 len0 cap0 w hs2
  by_cases hl : len0 ≤ 1048576
  · rcases w0 with ⟨_, h, _⟩ | ⟨x, rfl, hlc, hcm, hzl, hcell, hwf⟩
    · omega
    · obtain ⟨b, off, rfl, hb, hc⟩ := row_at (by omega) hcell
      have hbd := byte_bounds hwf 1
      have hor := or128 (z0.getD 1 0) hbd.1 hbd.2
      have han := and127 (z0.getD 1 0) hbd.1 hbd.2
      generalize hzz : z0.getD 1 0 = z at hbd hor han
      have hmid := walk_mid b off len0 cap0 z0 _ z w (by omega) hl (by omega) hb (fun t ht => hc t (by omega)) rfl hzz hbd.1 hbd.2 _ _ hor han
      by_cases g : 128 ≤ z
      · rw [if_pos g] at hmid
        refine hmid (by omega) (by omega) (by omega) (by omega) ?_ (hs_lo _) (hs_hi _ (by omega)) (.inl ⟨g, ?_⟩)
        · exact hs_up z g hbd.2
        · exact hs_up z g hbd.2
      · rw [if_neg g] at hmid
        have e : z % 128 = z := by omega
        rw [e] at hmid
        refine hmid (by omega) (by omega) (by omega) (by omega) ?_ (hs_lo _) (hs_hi _ (by omega)) (.inr ⟨by omega, rfl⟩)
        have h := hs_up (z + 128) (by omega) (by omega)
        rw [show (z + 128) % 128 = z by omega] at h
        exact h
  · exact walk_long a0 len0 cap0 w hl

/-! ### THE ROW's STEP: WRITTEN OUT: LEAVE IT -/
set_option maxRecDepth 100000 in
theorem lifted (os : Os) (started : os.Started) (H : Type) (enc : TypeId × Value → H) :
    ReturnsInHanded {} Try.checked os 4 .any (Rows.fnHeadSizeMaskAddsFourSpec.pre6 enc Try.prog Try.f4 Rows.fnHeadSizeMaskAddsFourRow.domain false) (Rows.fnHeadSizeMaskAddsFourSpec.post enc Try.prog Try.f4 false true false false) := by
  refine returnsInHanded_of_change (C := Try.checked) own started (by kernel_rfl) Try.func4
    (ChangeSpec.witness6 (enc := enc) (C := Try.checked) false ⟨#[], #[.slice none 0 0], []⟩ 8 (by kernel_rfl) (by kernel_rfl) (by kernel_rfl) (by kernel_rfl)) ?_
  intro W base args ds gs before hval0 hW hcnd _
  have hval : ∀ (j : Nat) t v, Try.f4.params[j]? = some t → args[j]? = some v → Value.okWide Try.prog W .any base t v := hval0
  have hW' := hW
  obtain ⟨p, q, hA0, hV, rfl, hfz, hnd⟩ := hW
  have hA : DataW.TrodAll enc Try.prog W 0 (fun _ => true) true Try.f4.params.toList args.toList ds p := hA0
  rw [Try.params4] at hA hval
  obtain ⟨v0, vs0, d0, ds0, p0, q0, hargs, rfl, rfl, h0, r0⟩ := trodAll_cons hA
  obtain ⟨rfl, rfl, rfl⟩ := trodAll_nil r0
  obtain rfl : args = #[v0] := by cases args; simp_all
  obtain ⟨rfl, rfl⟩ := trodVars_none hV
  obtain ⟨a0, len0, cap0, rfl⟩ := okWide_slice Try.underlying22 (hval 0 22 v0 rfl rfl)
  have k0 := h0
  have lt0 : ∀ x ∈ p0, x.block < W.heap.size := by obtain ⟨m, hm⟩ := k0; exact DataW.trod_lt m _ _ _ hm
  obtain ⟨z0, w0⟩ : ∃ zs, IsRow .u8 W a0 len0 cap0 zs := by
    obtain ⟨fuel, hf⟩ := h0
    rcases open_ints Try.underlying22 Try.underlying5 (by kernel_rfl) hf with ⟨hcs, _⟩ | ⟨x, l, c, zs, hcs, _, hl, hm, hz, _, hcell, hwz⟩
    · simp [Value.cells] at hcs
      obtain ⟨rfl, rfl, rfl⟩ := hcs
      exact ⟨[], .inl ⟨rfl, rfl, rfl, rfl⟩⟩
    · simp [Value.cells] at hcs
      obtain ⟨rfl, rfl, rfl⟩ := hcs
      exact ⟨zs, .inr ⟨_, rfl, hl, hm, by simpa using hz, hcell, hwz⟩⟩
  clear hA0 hval0
  refine (walk a0 len0 cap0 z0 W w0).mono fun e W' ⟨he, bel⟩ => ?_
  subst he
  exact ⟨_, rfl, _, _, _, [], _, [], hW', trodAll_mk1 (shut_bool Try.underlying4 _), (trodAll_cons_mk (Below.trod laidOut (by kernel_rfl) (of_decide_eq_true (by kernel_rfl)) k0 bel lt0) trodAll_mk0), rfl, bel.frame _, fun h => by cases h⟩

theorem over : Rows.fnHeadSizeMaskAddsFourRow.holds Try.pinned (OpenSpec.ofChange Rows.fnHeadSizeMaskAddsFourSpec) :=
  OpenClaim.holds_of_wide 4 Try.f4 rfl rfl rfl rfl rfl rfl rfl ⟨rfl, rfl, rfl, rfl, rfl⟩ rfl rfl rfl rfl rfl (by kernel_rfl) Try.func4 (by kernel_rfl)
    (of_decide_eq_true (by kernel_rfl)) (by unfold Func.isWrapper; first | (rw [if_pos (by decide +kernel)]; kernel_rfl) | (rw [if_neg (by decide +kernel)]; exact ⟨rfl, rfl⟩))
    (fun os started H enc _ => lifted os started H enc)

/-- ████ THE STATEMENT ████ -/
theorem proved : Rows.FnHeadSizeMaskAddsFourSaid := over
end Go.Proofs.Qxb6603879a.fnHeadSizeMaskAddsFour
