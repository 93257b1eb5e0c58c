/- The proof of 'Rows.FnHeadSizeOfEncodedHeaderSaid': the frame after the kit's shells, turned to five parameters, one of them an array. -/
import Derived.Test.Qxb6603879aRows
import Derived.Test.Qxb6603879aEncWalk
import Derived.WalkKit
import Derived.ProofKit
import Derived.OpenShut
import Derived.ShutString
import Derived.ChangeOld
import Derived.Below
import Derived.Laws.IdiomArrays
namespace Go.Proofs.Qxb6603879a.fnHeadSizeOfEncodedHeader
open Go.ChangeShapes Go.WideShapes Go.ChangeAt Go.RowKit

theorem own : ownKnob Try.prog.godebug = none := by kernel_rfl
theorem laidOut : laidOutB Try.prog = true := by kernel_rfl
theorem cells5 : Try.prog.cellsOf 5 = 1 := by kernel_rfl
theorem cells27 : Try.prog.cellsOf 27 = 4 := by kernel_rfl

theorem list4 {α : Type} (l : List α) (h : (⟨l⟩ : Array α).size = 4) : ∃ a b c d, l = [a, b, c, d] := by
  match l, h with
  | [a, b, c, d], _ => exact ⟨a, b, c, d, rfl⟩

/-- The array's four numbers. -/
theorem open_key {H : Type} {enc : TypeId × Value → H} {W : World} {base : Nat} {v : Value} {d : DataW H} {p : List MemPlace}
    (hv : Value.okWide Try.prog W .any base 27 v) (h : DataW.Trod enc Try.prog W 0 (fun _ => true) true 27 v d p) :
    ∃ k0 k1 k2 k3 : Int, v = .agg #[.int .u8 k0, .int .u8 k1, .int .u8 k2, .int .u8 k3] := by
  obtain ⟨cs, rfl, hsz, _⟩ : ∃ cs, v = .agg cs ∧ cs.size = Try.prog.cellsOf 27 ∧ Row.okWide Try.prog W .any base 27 cs := by
    simpa [Value.okWide, Try.underlying27] using hv
  rw [cells27] at hsz
  obtain ⟨l⟩ := cs
  obtain ⟨c0, c1, c2, c3, rfl⟩ := list4 l hsz
  obtain ⟨fuel, hf⟩ := h
  obtain ⟨y0, y1, y2, y3, m, hx, hy0, hy1, hy2, hy3⟩ := trod_array4 Try.underlying27 cells5 hf
  obtain ⟨x0, e0, rfl, w0⟩ := DataW.trod_int Try.underlying5 hy0
  obtain ⟨x1, e1, rfl, w1⟩ := DataW.trod_int Try.underlying5 hy1
  obtain ⟨x2, e2, rfl, w2⟩ := DataW.trod_int Try.underlying5 hy2
  obtain ⟨x3, e3, rfl, w3⟩ := DataW.trod_int Try.underlying5 hy3
  simp at e0 e1 e2 e3
  subst e0 e1 e2 e3
  exact ⟨x0, x1, x2, x3, rfl⟩

theorem walk (b0 n : Int) (m : Bool) (k0 k1 k2 k3 : Int) (a : Option Addr) (len cap : Nat) (zs : List Int) (w : World) (wn : (Lit.int .u64 n).wf = true)
    (hz : len ≤ zs.length) (hn : a = none → len = 0 ∧ cap = 0) (hc : ∀ x, a = some x → ∀ t, t < zs.length → w.cell? (x.add t) = some (.int .u8 (zs.getD t 0))) :
    Calls Try.prog 5 #[.int .u8 b0, .int .u64 n, .bool m, .agg #[.int .u8 k0, .int .u8 k1, .int .u8 k2, .int .u8 k3], .slice a len cap] w fun e w' => e = .returned (.bool true) ∧ Below w.heap.size w w' := by
  have hb := bounds_u64 wn
  by_cases hl : len ≤ 1048576
  · exact law5_main b0 n m k0 k1 k2 k3 a len cap zs w hb.1 hb.2 hl hz hn hc
  · exact law5_long b0 n m k0 k1 k2 k3 a len cap w hl

set_option maxRecDepth 100000 in
theorem lifted (os : Os) (started : os.Started) (H : Type) (enc : TypeId × Value → H) :
    ReturnsInHanded {} Try.checked os 5 .any (Rows.fnHeadSizeOfEncodedHeaderSpec.pre6 enc Try.prog Try.f5 Rows.fnHeadSizeOfEncodedHeaderRow.domain false) (Rows.fnHeadSizeOfEncodedHeaderSpec.post enc Try.prog Try.f5 false true false false) := by
  refine returnsInHanded_of_change (C := Try.checked) own started (by kernel_rfl) Try.func5
    (ChangeSpec.witness6 (enc := enc) (C := Try.checked) false ⟨#[], #[.int .u8 0, .int .u64 0, .bool false, .agg #[.int .u8 0, .int .u8 0, .int .u8 0, .int .u8 0], .slice none 0 0], []⟩ 8 (by kernel_rfl) (by kernel_rfl) (by kernel_rfl) (by kernel_rfl)) ?_
  intro W base args ds gs before hval0 hW hcnd _
  have hval : ∀ (j : Nat) t v, Try.f5.params[j]? = some t → args[j]? = some v → Value.okWide Try.prog W .any base t v := hval0
  have hW' := hW
  obtain ⟨p, q, hA0, hV, rfl, hfz, hnd⟩ := hW
  have hA : DataW.TrodAll enc Try.prog W 0 (fun _ => true) true Try.f5.params.toList args.toList ds p := hA0
  rw [Try.params5] at hA hval
  obtain ⟨v0, vs0, d0, ds0, p0, q0, hargs, rfl, rfl, h0, r0⟩ := trodAll_cons hA
  obtain ⟨v1, vs1, d1, ds1, p1, q1, rfl, rfl, rfl, h1, r1⟩ := trodAll_cons r0
  obtain ⟨v2, vs2, d2, ds2, p2, q2, rfl, rfl, rfl, h2, r2⟩ := trodAll_cons r1
  obtain ⟨v3, vs3, d3, ds3, p3, q3, rfl, rfl, rfl, h3, r3⟩ := trodAll_cons r2
  obtain ⟨v4, vs4, d4, ds4, p4, q4, rfl, rfl, rfl, h4, r4⟩ := trodAll_cons r3
  obtain ⟨rfl, rfl, rfl⟩ := trodAll_nil r4
  obtain rfl : args = #[v0, v1, v2, v3, v4] := by cases args; simp_all
  obtain ⟨rfl, rfl⟩ := trodVars_none hV
  have g0 := h0
  have g1 := h1
  have g2 := h2
  have g3 := h3
  have g4 := h4
  have lt0 : ∀ x ∈ p0, x.block < W.heap.size := by obtain ⟨m, hm⟩ := g0; exact DataW.trod_lt m _ _ _ hm
  have lt1 : ∀ x ∈ p1, x.block < W.heap.size := by obtain ⟨m, hm⟩ := g1; exact DataW.trod_lt m _ _ _ hm
  have lt2 : ∀ x ∈ p2, x.block < W.heap.size := by obtain ⟨m, hm⟩ := g2; exact DataW.trod_lt m _ _ _ hm
  have lt3 : ∀ x ∈ p3, x.block < W.heap.size := by obtain ⟨m, hm⟩ := g3; exact DataW.trod_lt m _ _ _ hm
  have lt4 : ∀ x ∈ p4, x.block < W.heap.size := by obtain ⟨m, hm⟩ := g4; exact DataW.trod_lt m _ _ _ hm
  obtain ⟨b0, hv0, _, _, _⟩ := open_int Try.underlying5 (hval 0 5 v0 rfl rfl) h0
  obtain ⟨n, hv1, _, _, wn⟩ := open_int Try.underlying26 (hval 1 26 v1 rfl rfl) h1
  obtain ⟨mk, hv2, _, _⟩ := open_bool Try.underlying4 (hval 2 4 v2 rfl rfl) h2
  obtain ⟨k0, k1, k2, k3, hv3⟩ := open_key (hval 3 27 v3 rfl rfl) h3
  obtain ⟨a, len, cap, rfl⟩ := okWide_slice Try.underlying22 (hval 4 22 v4 rfl rfl)
  subst hv0 hv1 hv2 hv3
  obtain ⟨zs, hz, hn, hc⟩ : ∃ zs : List Int, len ≤ zs.length ∧ (a = none → len = 0 ∧ cap = 0) ∧ ∀ x, a = some x → ∀ t, t < zs.length → W.cell? (x.add t) = some (.int .u8 (zs.getD t 0)) := by
    obtain ⟨fuel, hf⟩ := h4
    rcases open_ints Try.underlying22 Try.underlying5 (by kernel_rfl) hf with ⟨hcs, _⟩ | ⟨x, l, c, zs, hcs, _, hl, hm, hz, _, hcell, hwz⟩
    · simp [Value.cells] at hcs
      obtain ⟨rfl, rfl, rfl⟩ := hcs
      exact ⟨[], by simp, fun _ => ⟨rfl, rfl⟩, fun x hx => by cases hx⟩
    · simp [Value.cells] at hcs
      obtain ⟨rfl, rfl, rfl⟩ := hcs
      simp only [if_true] at hz
      exact ⟨zs, by omega, (fun h => by cases h), (fun y hy => by cases hy; exact hcell)⟩
  clear hA0 hval0
  refine (walk b0 n mk k0 k1 k2 k3 a len cap zs W wn hz hn hc).mono fun e W' ⟨he, bel⟩ => ?_
  subst he
  exact ⟨_, rfl, _, _, _, [], _, [], hW', trodAll_mk1 (shut_bool Try.underlying4 _),
    (trodAll_cons_mk (Below.trod laidOut (by kernel_rfl) (of_decide_eq_true (by kernel_rfl)) g0 bel lt0)
    (trodAll_cons_mk (Below.trod laidOut (by kernel_rfl) (of_decide_eq_true (by kernel_rfl)) g1 bel lt1)
    (trodAll_cons_mk (Below.trod laidOut (by kernel_rfl) (of_decide_eq_true (by kernel_rfl)) g2 bel lt2)
    (trodAll_cons_mk (Below.trod laidOut (by kernel_rfl) (of_decide_eq_true (by kernel_rfl)) g3 bel lt3)
    (trodAll_cons_mk (Below.trod laidOut (by kernel_rfl) (of_decide_eq_true (by kernel_rfl)) g4 bel lt4) trodAll_mk0))))), rfl, bel.frame _, fun h => by cases h⟩

theorem over : Rows.fnHeadSizeOfEncodedHeaderRow.holds Try.pinned (OpenSpec.ofChange Rows.fnHeadSizeOfEncodedHeaderSpec) :=
  OpenClaim.holds_of_wide 5 Try.f5 rfl rfl rfl rfl rfl rfl rfl ⟨rfl, rfl, rfl, rfl, rfl⟩ rfl rfl rfl rfl rfl (by kernel_rfl) Try.func5 (by kernel_rfl)
    (of_decide_eq_true (by kernel_rfl)) (by unfold Func.isWrapper; first | (rw [if_pos (by decide +kernel)]; kernel_rfl) | (rw [if_neg (by decide +kernel)]; exact ⟨rfl, rfl⟩))
    (fun os started H enc _ => lifted os started H enc)

/-- THE STATEMENT -/
theorem proved : Rows.FnHeadSizeOfEncodedHeaderSaid := over
end Go.Proofs.Qxb6603879a.fnHeadSizeOfEncodedHeader
