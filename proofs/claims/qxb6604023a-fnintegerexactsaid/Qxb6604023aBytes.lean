/- From the shell's reading of a byte slice (whole numbers that fit a byte) to bytes. -/
import Derived.Test.Qxb6604023aInt2
namespace Go.Proofs.Qxb6604023a
open Go.ChangeShapes Go.WideShapes Go.ChangeAt Go.RowKit

theorem bytes_of {zs : List Int} {len : Nat} (hw : ∀ n ∈ zs, (Lit.int .u8 n).wf = true) (hl : len ≤ zs.length) : ∃ l : List UInt8, l.length = len ∧ ∀ t, t < len → ((l.getD t 0).toNat : Int) = zs.getD t 0 := by
  refine ⟨(zs.take len).map (fun z => UInt8.ofNat z.toNat), by simp; omega, fun t ht => ?_⟩
  have hb := bounds_u8 (hw (zs.getD t 0) (by rw [List.getD_eq_getElem?_getD, List.getElem?_eq_getElem (by omega)]; exact List.getElem_mem _))
  have e : ((zs.take len).map (fun z => UInt8.ofNat z.toNat)).getD t 0 = UInt8.ofNat (zs.getD t 0).toNat := by
    simp [List.getD, ht, show t < zs.length by omega]
  rw [e, UInt8.toNat_ofNat']
  omega

theorem src_cells {w : World} {x : Addr} {zs : List Int} {l : List UInt8} {len : Nat} (hl : len ≤ zs.length) (hc : ∀ i, i < zs.length → w.cell? (x.add i) = some (.int .u8 (zs.getD i 0))) (h : ∀ t, t < len → ((l.getD t 0).toNat : Int) = zs.getD t 0) :
    ∀ t, t < len → w.cell? (x.add t) = some (.int .u8 ((l.getD t 0).toNat : Int)) := fun t ht => by rw [hc t (by omega), h t ht]
end Go.Proofs.Qxb6604023a
