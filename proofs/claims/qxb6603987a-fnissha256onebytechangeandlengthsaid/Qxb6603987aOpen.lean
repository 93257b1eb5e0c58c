/- A digest that comes in: thirty-two bytes. -/
import Derived.Test.Qxb6603987aDigest
import Derived.OpenShut
namespace Go.Proofs.Qxb6603987a
open Go.ChangeShapes Go.WideShapes Go.ChangeAt Go.RowKit

theorem cells5 : Try.prog.cellsOf 5 = 1 := by kernel_rfl
theorem cells24 : Try.prog.cellsOf 24 = 32 := by kernel_rfl

theorem rows_of : ∀ (l : List Value), (∀ i, i < l.length → ∃ b : UInt8, l[i]? = some (.int .u8 (b.toNat : Int))) → ∃ ds, l = rowB ds
  | [], _ => ⟨[], rfl⟩
  | v :: l, h => by
    obtain ⟨ds, hds⟩ := rows_of l (fun i hi => by simpa using h (i + 1) (by simpa using hi))
    obtain ⟨b, hb⟩ := h 0 (by simp)
    simp at hb
    exact ⟨b :: ds, by rw [hb, hds]; simp [rowB]⟩

theorem byte_of {n : Int} (h : (Lit.int .u8 n).wf = true) : ∃ b : UInt8, n = (b.toNat : Int) := by
  have hb := bounds_u8 h
  refine ⟨UInt8.ofNat n.toNat, ?_⟩
  rw [UInt8.toNat_ofNat']
  omega

theorem open_digest {H : Type} {enc : TypeId × Value → H} {W : World} {base : Nat} {v : Value} {d : DataW H} {p : List MemPlace}
    (hv : Value.okWide Try.prog W .any base 24 v) (h : DataW.Trod enc Try.prog W 0 (fun _ => true) true 24 v d p) :
    ∃ ds : List UInt8, ds.length = 32 ∧ v = .agg (rowB ds).toArray := by
  obtain ⟨cs, rfl, hsz, _⟩ : ∃ cs, v = .agg cs ∧ cs.size = Try.prog.cellsOf 24 ∧ Row.okWide Try.prog W .any base 24 cs := by
    simpa [Value.okWide, Try.underlying24] using hv
  rw [cells24] at hsz
  obtain ⟨fuel, hf⟩ := h
  obtain ⟨xs, m, _, _, hlen, hxl, hall⟩ := DataW.trod_array Try.underlying24 hf
  obtain ⟨l⟩ := cs
  have hl : l.length = 32 := by simpa using hsz
  obtain ⟨ds, hds⟩ := rows_of l (fun i hi => by
    have hi' := hall i (by omega)
    rw [cells5, List.getElem?_eq_getElem (by omega)] at hi'
    obtain ⟨n, e, _, wn⟩ := DataW.trod_int Try.underlying5 hi'
    obtain ⟨b, rfl⟩ := byte_of wn
    refine ⟨b, ?_⟩
    have e2 : ((l.drop (i * 1)).take 1)[0]? = some (.int .u8 (b.toNat : Int)) := by
      have : (Value.agg ⟨l⟩).cells.toList = l := rfl
      rw [this] at e
      rw [e]; rfl
    simpa using e2)
  subst hds
  exact ⟨ds, by simpa [rowB] using hl, rfl⟩
end Go.Proofs.Qxb6603987a
