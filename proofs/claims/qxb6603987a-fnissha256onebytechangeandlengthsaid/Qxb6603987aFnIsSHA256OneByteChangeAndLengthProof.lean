/- The proof of 'Rows.FnIsSHA256OneByteChangeAndLengthSaid': the frame after the kit's shells, turned to five parameters, one of them an array. -/
import Derived.Test.Qxb6603987aRows
import Derived.Test.Qxb6603987aOneByte
import Derived.Test.Qxb6603987aOpen
import Derived.WalkKit
import Derived.ProofKit
import Derived.OpenShut
import Derived.ShutString
namespace Go.Proofs.Qxb6603987a.fnIsSHA256OneByteChangeAndLength
open Go.ChangeShapes Go.WideShapes Go.ChangeAt Go.RowKit

theorem own : ownKnob Try.prog.godebug = none := by kernel_rfl
theorem laidOut : laidOutB Try.prog = true := by kernel_rfl

theorem walk (ds : List UInt8) (i j : Int) (cu eu : UInt8) (w : World) (hd : ds.length = 32) :
    Calls Try.prog 5 #[.agg (rowB ds).toArray, .int .i64 i, .int .u8 (cu.toNat : Int), .int .i64 j, .int .u8 (eu.toNat : Int)] w fun r w' => r = .returned (.bool true) ∧ Below w.heap.size w w' := by
  by_cases h : i < 0 ∨ 64 ≤ i ∨ j < 0 ∨ 64 < j
  · exact law5_out ds i _ j _ w h
  · obtain ⟨I, rfl⟩ : ∃ I : Nat, i = (I : Int) := ⟨i.toNat, by omega⟩
    obtain ⟨J, rfl⟩ : ∃ J : Nat, j = (J : Int) := ⟨j.toNat, by omega⟩
    exact law5_in ds I J cu eu w hd (by omega) (by omega)

set_option maxRecDepth 100000 in
theorem lifted (os : Os) (started : os.Started) (H : Type) (enc : TypeId × Value → H) :
    ReturnsInHanded {} Try.checked os 5 .any (Rows.fnIsSHA256OneByteChangeAndLengthSpec.pre6 enc Try.prog Try.f5 Rows.fnIsSHA256OneByteChangeAndLengthRow.domain false) (Rows.fnIsSHA256OneByteChangeAndLengthSpec.post enc Try.prog Try.f5 false true false false) := by
  refine returnsInHanded_of_change (C := Try.checked) own started (by kernel_rfl) Try.func5
    (ChangeSpec.witness6 (enc := enc) (C := Try.checked) false ⟨#[], #[.agg (Array.replicate 32 (.int .u8 0)), .int .i64 0, .int .u8 0, .int .i64 0, .int .u8 0], []⟩ 8 (by kernel_rfl) (by kernel_rfl) (by kernel_rfl) (by kernel_rfl)) ?_
  intro W base args ds gs before hval0 hW hcnd _
  have hval : ∀ (j : Nat) t v, Try.f5.params[j]? = some t → args[j]? = some v → Value.okWide Try.prog W .any base t v := hval0
  have hW' := hW
  obtain ⟨p, q, hA0, hV, rfl, hfz, hnd⟩ := hW
  have hA : DataW.TrodAll enc Try.prog W 0 (fun _ => true) true Try.f5.params.toList args.toList ds p := hA0
  rw [Try.params5] at hA hval
  obtain ⟨v0, vs0, d0, ds0, p0, q0, hargs, rfl, rfl, h0, r0⟩ := trodAll_cons hA
  obtain ⟨v1, vs1, d1, ds1, p1, q1, rfl, rfl, rfl, h1, r1⟩ := trodAll_cons r0
  obtain ⟨v2, vs2, d2, ds2, p2, q2, rfl, rfl, rfl, h2, r2⟩ := trodAll_cons r1
  obtain ⟨v3, vs3, d3, ds3, p3, q3, rfl, rfl, rfl, h3, r3⟩ := trodAll_cons r2
  obtain ⟨v4, vs4, d4, ds4, p4, q4, rfl, rfl, rfl, h4, r4⟩ := trodAll_cons r3
  obtain ⟨rfl, rfl, rfl⟩ := trodAll_nil r4
  obtain rfl : args = #[v0, v1, v2, v3, v4] := by cases args; simp_all
  obtain ⟨rfl, rfl⟩ := trodVars_none hV
  have g0 := h0
  have g1 := h1
  have g2 := h2
  have g3 := h3
  have g4 := h4
  have lt0 : ∀ x ∈ p0, x.block < W.heap.size := by obtain ⟨m, hm⟩ := g0; exact DataW.trod_lt m _ _ _ hm
  have lt1 : ∀ x ∈ p1, x.block < W.heap.size := by obtain ⟨m, hm⟩ := g1; exact DataW.trod_lt m _ _ _ hm
  have lt2 : ∀ x ∈ p2, x.block < W.heap.size := by obtain ⟨m, hm⟩ := g2; exact DataW.trod_lt m _ _ _ hm
  have lt3 : ∀ x ∈ p3, x.block < W.heap.size := by obtain ⟨m, hm⟩ := g3; exact DataW.trod_lt m _ _ _ hm
  have lt4 : ∀ x ∈ p4, x.block < W.heap.size := by obtain ⟨m, hm⟩ := g4; exact DataW.trod_lt m _ _ _ hm
  obtain ⟨dg, hdg, hv0⟩ := open_digest (hval 0 24 v0 rfl rfl) h0
  obtain ⟨i, hv1, _, _, _⟩ := open_int Try.underlying3 (hval 1 3 v1 rfl rfl) h1
  obtain ⟨c, hv2, _, _, wc⟩ := open_int Try.underlying5 (hval 2 5 v2 rfl rfl) h2
  obtain ⟨j, hv3, _, _, _⟩ := open_int Try.underlying3 (hval 3 3 v3 rfl rfl) h3
  obtain ⟨e, hv4, _, _, we⟩ := open_int Try.underlying5 (hval 4 5 v4 rfl rfl) h4
  obtain ⟨cu, hcu⟩ := byte_of wc
  obtain ⟨eu, heu⟩ := byte_of we
  rw [hcu] at hv2
  rw [heu] at hv4
  subst hv0 hv1 hv2 hv3 hv4
  clear hA0 hval0
  refine (walk dg i j cu eu W hdg).mono fun e W' ⟨he, bel⟩ => ?_
  subst he
  exact ⟨_, rfl, _, _, _, [], _, [], hW', trodAll_mk1 (shut_bool Try.underlying4 _),
    (trodAll_cons_mk (Below.trod laidOut (by kernel_rfl) (of_decide_eq_true (by kernel_rfl)) g0 bel lt0)
    (trodAll_cons_mk (Below.trod laidOut (by kernel_rfl) (of_decide_eq_true (by kernel_rfl)) g1 bel lt1)
    (trodAll_cons_mk (Below.trod laidOut (by kernel_rfl) (of_decide_eq_true (by kernel_rfl)) g2 bel lt2)
    (trodAll_cons_mk (Below.trod laidOut (by kernel_rfl) (of_decide_eq_true (by kernel_rfl)) g3 bel lt3)
    (trodAll_cons_mk (Below.trod laidOut (by kernel_rfl) (of_decide_eq_true (by kernel_rfl)) g4 bel lt4) trodAll_mk0))))), rfl, bel.frame _, fun h => by cases h⟩

theorem over : Rows.fnIsSHA256OneByteChangeAndLengthRow.holds Try.pinned (OpenSpec.ofChange Rows.fnIsSHA256OneByteChangeAndLengthSpec) :=
  OpenClaim.holds_of_wide 5 Try.f5 rfl rfl rfl rfl rfl rfl rfl ⟨rfl, rfl, rfl, rfl, rfl⟩ rfl rfl rfl rfl rfl (by kernel_rfl) Try.func5 (by kernel_rfl)
    (of_decide_eq_true (by kernel_rfl)) (by unfold Func.isWrapper; first | (rw [if_pos (by decide +kernel)]; kernel_rfl) | (rw [if_neg (by decide +kernel)]; exact ⟨rfl, rfl⟩))
    (fun os started H enc _ => lifted os started H enc)

/-- THE STATEMENT -/
theorem proved : Rows.FnIsSHA256OneByteChangeAndLengthSaid := over
end Go.Proofs.Qxb6603987a.fnIsSHA256OneByteChangeAndLength
