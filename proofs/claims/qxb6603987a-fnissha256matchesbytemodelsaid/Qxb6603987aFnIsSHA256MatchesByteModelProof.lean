/- The proof of 'Rows.FnIsSHA256MatchesByteModelSaid': the frame after the kit's shells, the walk typed by hand. -/
import Derived.Test.Qxb6603987aRows
import Derived.Test.Qxb6603987aAlpha
import Derived.WalkKit
import Derived.ProofKit
import Derived.OpenShut
import Derived.ShutString
namespace Go.Proofs.Qxb6603987a.fnIsSHA256MatchesByteModel
open Go.ChangeShapes Go.WideShapes Go.ChangeAt Go.RowKit
open Go.ChangeMaps (open_string shut_string)
set_option linter.unusedVariables false

theorem own : ownKnob Try.prog.godebug = none := by kernel_rfl

theorem laidOut : laidOutB Try.prog = true := by kernel_rfl

/-! ### THE WALK -/
theorem walk_long (s : ByteArray) (w : World) (h : ¬ s.size ≤ 1048576) :
    Calls Try.prog 3 #[.string s] w fun e w' => e = .returned (.bool true) ∧ Below w.heap.size w w' := by
  go_enter Try.func3, Try.ntmps3
  go_wp2_with (go_at_call 6; refine (zz6_no _ _ h).mono ?_; rintro e w' ⟨rfl, rfl⟩)
  go_ret
  exact ⟨rfl, Below.refl _ _⟩

theorem walk_ne (s : ByteArray) (w : World) (h : s.size ≤ 1048576) (h64 : s.size ≠ 64) :
    Calls Try.prog 3 #[.string s] w fun e w' => e = .returned (.bool true) ∧ Below w.heap.size w w' := by
  have hne : ((s.size : Int) == 64) = false := by simp; omega
  have hsh := shaB_size h64
  go_enter Try.func3, Try.ntmps3
  go_wp2_with (first | (go_at_call 6; refine (zz6_yes _ _ h).mono ?_; rintro e w' ⟨rfl, rfl⟩) | (go_at_call 8; refine (sha8 s _).mono ?_; rintro e w' ⟨rfl, hb⟩))
  go_ret
  exact ⟨rfl, by assumption⟩

theorem walk_64 (s : ByteArray) (w : World) (h64 : s.size = 64) :
    Calls Try.prog 3 #[.string s] w fun e w' => e = .returned (.bool true) ∧ Below w.heap.size w w' := by
  have h : s.size ≤ 1048576 := by omega
  have hne : ((s.size : Int) == 64) = true := by simp; omega
  have HL := hidIt (cntL_all s.data.toList (by simpa using h64))
  clear h64
  by_cases hall : cntL s.data.toList = s.data.toList.length
  · have hsh : shaB s = true := by unfold shaB; rw [HL.out]; simpa using hall
    have hcn : ((cntL s.data.toList : Int) == (s.size : Int)) = true := by rw [hall]; simp
    clear hall
    go_enter Try.func3, Try.ntmps3
    go_wp2_with (first | (go_at_call 6; refine (zz6_yes _ _ h).mono ?_; rintro e w' ⟨rfl, rfl⟩) | (go_at_call 7; refine (count7 s _ h).mono ?_; rintro e w' ⟨rfl, rfl⟩) | (go_at_call 8; refine (sha8 s _).mono ?_; rintro e w' ⟨rfl, hb⟩))
    go_ret
    exact ⟨rfl, by assumption⟩
  · have hsh : shaB s = false := by unfold shaB; rw [HL.out]; simpa using hall
    have hcn : ((cntL s.data.toList : Int) == (s.size : Int)) = false := by
      have e : s.data.toList.length = s.size := by simp
      rw [e] at hall
      simp
      omega
    clear hall
    go_enter Try.func3, Try.ntmps3
    go_wp2_with (first | (go_at_call 6; refine (zz6_yes _ _ h).mono ?_; rintro e w' ⟨rfl, rfl⟩) | (go_at_call 7; refine (count7 s _ h).mono ?_; rintro e w' ⟨rfl, rfl⟩) | (go_at_call 8; refine (sha8 s _).mono ?_; rintro e w' ⟨rfl, hb⟩))
    go_ret
    exact ⟨rfl, by assumption⟩

theorem walk (s : ByteArray) (w : World) :
    Calls Try.prog 3 #[.string s] w fun e w' => e = .returned (.bool true) ∧ Below w.heap.size w w' := by
  by_cases h : s.size ≤ 1048576
  · by_cases h64 : s.size = 64
    · exact walk_64 s w h64
    · exact walk_ne s w h h64
  · exact walk_long s w h

/-! ### THE ROW's STEP: WRITTEN OUT: LEAVE IT -/
set_option maxRecDepth 100000 in
theorem lifted (os : Os) (started : os.Started) (H : Type) (enc : TypeId × Value → H) :
    ReturnsInHanded {} Try.checked os 3 .any (Rows.fnIsSHA256MatchesByteModelSpec.pre6 enc Try.prog Try.f3 Rows.fnIsSHA256MatchesByteModelRow.domain false) (Rows.fnIsSHA256MatchesByteModelSpec.post enc Try.prog Try.f3 false true false false) := by
  refine returnsInHanded_of_change (C := Try.checked) own started (by kernel_rfl) Try.func3
    (ChangeSpec.witness6 (enc := enc) (C := Try.checked) false ⟨#[], #[.string ByteArray.empty], []⟩ 8 (by kernel_rfl) (by kernel_rfl) (by kernel_rfl) (by kernel_rfl)) ?_
  intro W base args ds gs before hval0 hW hcnd _
  have hval : ∀ (j : Nat) t v, Try.f3.params[j]? = some t → args[j]? = some v → Value.okWide Try.prog W .any base t v := hval0
  have hW' := hW
  obtain ⟨p, q, hA0, hV, rfl, hfz, hnd⟩ := hW
  have hA : DataW.TrodAll enc Try.prog W 0 (fun _ => true) true Try.f3.params.toList args.toList ds p := hA0
  rw [Try.params3] at hA hval
  obtain ⟨v0, vs0, d0, ds0, p0, q0, hargs, rfl, rfl, h0, r0⟩ := trodAll_cons hA
  obtain ⟨rfl, rfl, rfl⟩ := trodAll_nil r0
  obtain rfl : args = #[v0] := by cases args; simp_all
  obtain ⟨rfl, rfl⟩ := trodVars_none hV
  have g0 := h0
  have lt0 : ∀ x ∈ p0, x.block < W.heap.size := by obtain ⟨m, hm⟩ := g0; exact DataW.trod_lt m _ _ _ hm
  obtain ⟨a0, hv0, _, _, w0⟩ := open_string Try.underlying9 (hval 0 9 v0 rfl rfl) h0
  subst hv0
  clear hA0 hval0
  refine (walk a0 W).mono fun e W' ⟨he, bel⟩ => ?_
  subst he
  exact ⟨_, rfl, _, _, _, [], _, [], hW', trodAll_mk1 (shut_bool Try.underlying4 _), (trodAll_cons_mk (Below.trod laidOut (by kernel_rfl) (of_decide_eq_true (by kernel_rfl)) g0 bel lt0) trodAll_mk0), rfl, bel.frame _, fun h => by cases h⟩

theorem over : Rows.fnIsSHA256MatchesByteModelRow.holds Try.pinned (OpenSpec.ofChange Rows.fnIsSHA256MatchesByteModelSpec) :=
  OpenClaim.holds_of_wide 3 Try.f3 rfl rfl rfl rfl rfl rfl rfl ⟨rfl, rfl, rfl, rfl, rfl⟩ rfl rfl rfl rfl rfl (by kernel_rfl) Try.func3 (by kernel_rfl)
    (of_decide_eq_true (by kernel_rfl)) (by unfold Func.isWrapper; first | (rw [if_pos (by decide +kernel)]; kernel_rfl) | (rw [if_neg (by decide +kernel)]; exact ⟨rfl, rfl⟩))
    (fun os started H enc _ => lifted os started H enc)

/-- ████ THE STATEMENT ████ -/
theorem proved : Rows.FnIsSHA256MatchesByteModelSaid :=
  over
end Go.Proofs.Qxb6603987a.fnIsSHA256MatchesByteModel
