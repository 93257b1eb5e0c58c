/- The walk of FnIsSHA256AcceptsLowerHexOfEveryDigest (function 4). -/
import Derived.Test.Qxb6603987aEnc
import Derived.Deep.RegionHeld2
namespace Go.Proofs.Qxb6603987a
open Go.ChangeShapes Go.WideShapes Go.ChangeAt Go.RowKit

theorem Try.info5 : (Try.prog.info? 5).map (fun i => (i.zero, i.size, i.bytes)) = some (some (.int .u8 0), 1, 1) := by kernel_rfl
theorem Try.size24 : (Try.prog.info? 24).map (·.size) = some 32 := by kernel_rfl

/-- A new row of n zero bytes. -/
theorem zeros {w' : World} {base g n : Nat} (h : w'.ownsRow base 5 1 (.slice (some ⟨g, 0, none⟩) n n) n (madeCells #[.int .u8 0] n).toList) :
    w'.ownsRow base 5 1 (.slice (some ⟨g, 0, none⟩) n n) n (rowB (List.replicate n 0)) := by
  rw [toList_madeCells_one] at h
  simpa [rowB] using h

theorem size_of {ds : List UInt8} (hd : ds.length = 32) : (Try.prog.info? 24).map (·.size) = some (rowB ds).toArray.size := by
  rw [Try.size24]
  simp [rowB, hd]

/-- The digest read out of its box. -/
theorem wpList_load_box {ops : Array Oper} {rest : List Oper} {o : Oper} {a : Act} {w : World} {Q : Exit → Act → World → Prop} (hgd : o.guard = none) (x : Operand) (ho : o.op = .load 24 x)
    {B : Nat} {ds : List UInt8} (hx : a.eval x = .pointer (some ⟨B, 0, none⟩)) (h : BoxAt w B ds) (hd : ds.length = 32)
    (hK : wpList Try.prog ops Q rest (a.put o.dst (.agg (rowB ds).toArray)) w) : wpList Try.prog ops Q (o :: rest) a w :=
  wpList_load_row hgd 24 x ho B hx 24 _ (0, 0) _ h Try.underlying24 rfl (size_of hd) hK

/-- 'string(b)' of a row of bytes. -/
theorem str_of {w : World} {base g n : Nat} {xs : List UInt8} (h : w.ownsRow base 5 1 (.slice (some ⟨g, 0, none⟩) n n) n (rowB xs)) :
    (convert 25 9 (.slice (some ⟨g, 0, none⟩) n n)).run Try.prog w = .ok (.string ⟨xs.toArray⟩) w := by
  have hl : xs.length = n := by simpa [rowB] using h.1
  have := run_convert_bytes_back (P := Try.prog) w 25 9 5 ⟨g, 0, none⟩ n xs Try.underlying25 Try.underlying5 Try.underlying9 (fun j hj => by
    have hc := own_cellB h j (by omega)
    rw [Addr.add_lit, Nat.zero_add, hc]
    simp [List.getD, hj])
  rw [hl] at this
  exact this

/-- What is owned below a mark stays owned. -/
theorem own_later {w w' : World} {base g n cap B : Nat} {vs : List Value} (h : w.ownsRow base 5 1 (.slice (some ⟨g, 0, none⟩) n cap) n vs) (hb : Below B w w') (hg : g < B) :
    w'.ownsRow base 5 1 (.slice (some ⟨g, 0, none⟩) n cap) n vs := by
  refine ⟨h.1, ?_⟩
  rcases h.2 with h2 | ⟨g', cap', cur, e, h3, h4, h5⟩
  · exact .inl h2
  · have : g = g' := by simp at e; exact e.1
    subst this
    exact .inr ⟨g, cap', cur, e, h3, (hb.block g hg).trans h4, h5⟩

theorem range_box {w : World} {B : Nat} {ds : List UInt8} (h : BoxAt w B ds) : w.rangeAt B 0 (rowB ds) := fun j v hv => by
  rw [Nat.zero_add, cell_of_row w B j _ 24 (0, 0) h]
  simpa using hv
theorem range_later {w w' : World} {B : Nat} {cs : List Value} (h : w.rangeAt B 0 cs) (hb : Below w.heap.size w w') : w'.rangeAt B 0 cs := fun j v hv => cell_later hb (h j v hv)

theorem own_lt {w : World} {base g n cap : Nat} {vs : List Value} (h : w.ownsRow base 5 1 (.slice (some ⟨g, 0, none⟩) n cap) n vs) : g < w.heap.size := (h.lt g rfl).2
theorem keep_all {w w' : World} {B g : Nat} {ds ys : List UInt8} (h : w.rangeAt B 0 (rowB ds) ∧ w.ownsRow g 5 1 (.slice (some ⟨g, 0, none⟩) 64 64) 64 (rowB ys) ∧ (convert 25 9 (.slice (some ⟨g, 0, none⟩) 64 64)).run Try.prog w = .ok (.string ⟨ys.toArray⟩) w)
    (hb : Below w.heap.size w w') : w'.rangeAt B 0 (rowB ds) ∧ w'.ownsRow g 5 1 (.slice (some ⟨g, 0, none⟩) 64 64) 64 (rowB ys) ∧ (convert 25 9 (.slice (some ⟨g, 0, none⟩) 64 64)).run Try.prog w' = .ok (.string ⟨ys.toArray⟩) w' :=
  have ho := own_later h.2.1 hb (own_lt h.2.1)
  ⟨range_later h.1 hb, ho, str_of ho⟩

abbrev lowA : ByteArray := ⟨#[48, 49, 50, 51, 52, 53, 54, 55, 56, 57, 97, 98, 99, 100, 101, 102]⟩
abbrev upA : ByteArray := ⟨#[48, 49, 50, 51, 52, 53, 54, 55, 56, 57, 65, 66, 67, 68, 69, 70]⟩

theorem low_nib : ∀ n, n < 16 → hexN (lowA.data.toList.getD n 0).toNat = true := by decide +kernel
theorem up_nib : ∀ n, n < 16 → hexN (upA.data.toList.getD n 0).toNat = decide (n < 10) := by decide +kernel

theorem shaL_true {xs : List UInt8} (hl : xs.length = 64) (h : ∀ t, t < 64 → hexN (xs.getD t 0).toNat = true) : shaB ⟨xs.toArray⟩ = true := by
  show shaL xs = true
  simp only [shaL, Bool.and_eq_true, decide_eq_true_eq, List.all_eq_true]
  refine ⟨hl, fun b hb => ?_⟩
  obtain ⟨t, ht, rfl⟩ := List.getElem_of_mem hb
  have := h t (by omega)
  simpa [List.getD, ht] using this
theorem shaL_false {xs : List UInt8} {t : Nat} (ht : t < xs.length) (h : hexN (xs.getD t 0).toNat = false) : shaB ⟨xs.toArray⟩ = false := by
  show shaL xs = false
  cases e : shaL xs with
  | false => rfl
  | true =>
    simp only [shaL, Bool.and_eq_true, List.all_eq_true] at e
    have := e.2 (xs.getD t 0) (by simp [List.getD, ht])
    rw [h] at this
    cases this

theorem enc_low {ds xs : List UInt8} (h : xs.length = 64 ∧ ∀ t, t < 64 → xs.getD t 0 = encAt lowA ds t) : ∀ t, t < 64 → hexN (xs.getD t 0).toNat = true := by
  intro t ht
  rw [h.2 t ht]
  unfold encAt
  have := (ds.getD (t / 2) 0).toNat_lt
  apply low_nib
  split <;> omega
theorem enc_up {ds ys : List UInt8} (hd : ds.length = 32) (h : ys.length = 64 ∧ ∀ t, t < 64 → ys.getD t 0 = encAt upA ds t) : shaB ⟨ys.toArray⟩ = digB ds := by
  have hn : ∀ t, t < 64 → hexN (ys.getD t 0).toNat = decide ((if t % 2 = 0 then (ds.getD (t / 2) 0).toNat / 16 else (ds.getD (t / 2) 0).toNat % 16) < 10) := by
    intro t ht
    rw [h.2 t ht]
    unfold encAt
    have := (ds.getD (t / 2) 0).toNat_lt
    apply up_nib
    split <;> omega
  cases e : digB ds with
  | true =>
    refine shaL_true h.1 (fun t ht => ?_)
    rw [hn t ht]
    simp only [digB, List.all_eq_true, Bool.and_eq_true, decide_eq_true_eq] at e
    have hm := e (ds.getD (t / 2) 0) (by simp [List.getD, show t / 2 < ds.length by omega])
    simp only [decide_eq_true_eq]
    split
    · exact hm.1
    · exact hm.2
  | false =>
    have hex : ∃ k, k < ds.length ∧ ¬ ((ds.getD k 0).toNat / 16 < 10 ∧ (ds.getD k 0).toNat % 16 < 10) := by
      apply Classical.byContradiction
      intro hno
      have : digB ds = true := digB_good (fun t ht => Classical.byContradiction (fun hb => hno ⟨t, ht, hb⟩))
      rw [e] at this
      cases this
    obtain ⟨k, hk, hbad⟩ := hex
    by_cases h1 : (ds.getD k 0).toNat / 16 < 10
    · refine shaL_false (t := 2 * k + 1) (by omega) ?_
      rw [hn _ (by omega), if_neg (by omega), show (2 * k + 1) / 2 = k by omega]
      simp only [decide_eq_false_iff_not]
      omega
    · refine shaL_false (t := 2 * k) (by omega) ?_
      rw [hn _ (by omega), if_pos (by omega), show 2 * k / 2 = k by omega]
      simp only [decide_eq_false_iff_not]
      omega

set_option maxHeartbeats 1600000 in
theorem law4 (ds : List UInt8) (w : World) (hd : ds.length = 32) :
    Calls Try.prog 4 #[.agg (rowB ds).toArray] w fun e w' => e = .returned (.bool true) ∧ Below w.heap.size w w' := by
  obtain ⟨i0, hi, hz0, hz1, hz2⟩ := info_parts Try.info5
  have HD := hidIt hd
  have HSZ24 : Hid ((Try.prog.info? 24).map (·.size) = some (rowB ds).length) := hidIt (by rw [Try.size24, rowB_length, hd])
  clear hd
  go_enter Try.func4, Try.ntmps4
  go_wp2_with (at_make; refine wpList_make_full _ rfl _ _ 25 rfl (w.heap.size + 1) 5 i0 (.int .u8 0) 1 Try.underlying25 hi hz0 hz1 _ _ _ _ 64 rfl rfl rfl rfl ?b2 ?b3 ?b4 ?_)
  case b2 => rw [hz2]; omega
  case b3 => unfold maxLen; omega
  case b4 => simp
  intro w2 hown2 hgrow2
  have HO2 := hidIt (zeros (by simpa using hown2))
  have HB2 : Hid (BoxAt w2 w.heap.size ds) := hidIt ((hgrow2.block w.heap.size (by simp) (by simp)).trans (heap_alloc_new _ _))
  have Hb2 : Hid (Below (w.heap.size + 1) (w.alloc (.cells (rowB ds).toArray 24)) w2) := hidIt ((Below.refl _ _).grown hgrow2 (by simp) (fun k h => by cases h))
  have HG2 : Hid (w.heap.size + 1 < w2.heap.size) := hidIt (by have := own_cellB HO2.out 0 (by omega); exact World.block_lt_of_cell? _ _ this)
  clear hown2 hgrow2
  go_wp2_with ((with_reducible refine wpList_load_box ?_ (.tmp 1) ?_ (B := w.heap.size) (ds := ds) ?_ ?_ HD.out ?_); exact rfl; exact rfl; exact rfl; exact HB2.out)
  refine (enc9 (w.heap.size + 1) ds lowA _ w2 HD.out rfl HG2.out HO2.out).mono ?_
  rintro e w3 ⟨rfl, xs, hxl, hxe, hown3, hb3⟩
  have HX := hidIt (And.intro hxl hxe)
  have HO3 := hidIt hown3
  have HB3 : Hid (BoxAt w3 w.heap.size ds) := hidIt (HB2.out.later hb3 (by omega))
  have Hb3 := hidIt hb3
  have HG3 : Hid (w.heap.size + 1 < w3.heap.size) := hidIt (Nat.lt_of_lt_of_le HG2.out hb3.size)
  clear hxl hxe hown3 hb3
  go_wp2_with (at_make; refine wpList_make_full _ rfl _ _ 25 rfl w3.heap.size 5 i0 (.int .u8 0) 1 Try.underlying25 hi hz0 hz1 _ _ _ _ 64 rfl rfl rfl rfl ?b5 ?b6 (Nat.le_refl _) ?_)
  case b5 => rw [hz2]; omega
  case b6 => unfold maxLen; omega
  intro w4 hown4 hgrow4
  have HO4 := hidIt (zeros (by simpa using hown4))
  have Hb4 : Hid (Below w3.heap.size w3 w4) := hidIt ((Below.refl _ _).grown hgrow4 (Nat.le_refl _) (fun k h => by cases h))
  have HG4 : Hid (w3.heap.size < w4.heap.size) := hidIt (by have := own_cellB HO4.out 0 (by omega); exact World.block_lt_of_cell? _ _ this)
  clear hown4 hgrow4
  have HB4 : Hid (BoxAt w4 w.heap.size ds) := hidIt (HB3.out.later Hb4.out (by have := HG3.out; omega))
  go_wp2_with ((with_reducible refine wpList_load_box ?_ (.tmp 1) ?_ (B := w.heap.size) (ds := ds) ?_ ?_ HD.out ?_); exact rfl; exact rfl; exact rfl; exact HB4.out)
  refine (enc9 w3.heap.size ds upA _ w4 HD.out rfl HG4.out HO4.out).mono ?_
  rintro e w5 ⟨rfl, ys, hyl, hye, hown5, hb5⟩
  have HY := hidIt (And.intro hyl hye)
  have HO5 := hidIt hown5
  have HB5 : Hid (BoxAt w5 w.heap.size ds) := hidIt (HB4.out.later hb5 (by have := HG3.out; omega))
  have Hb35 : Hid (Below w3.heap.size w3 w5) := hidIt (Hb4.out.trans hb5)
  have HL5 : Hid (w5.ownsRow (w.heap.size + 1) 5 1 (.slice (some ⟨w.heap.size + 1, 0, none⟩) 64 64) 64 (rowB xs)) := hidIt (own_later HO3.out Hb35.out HG3.out)
  clear hyl hye hown5 hb5
  have hstr := str_of HL5.out
  have hlo := shaL_true HX.out.1 (enc_low HX.out)
  have hup := enc_up HD.out HY.out
  go_wp2_with fail
  refine (sha8 ⟨xs.toArray⟩ w5).mono ?_
  rintro e w6 ⟨rfl, hb6⟩
  have Hb6 := hidIt hb6
  clear hb6 hstr
  have HO6 : Hid (w6.ownsRow w3.heap.size 5 1 (.slice (some ⟨w3.heap.size, 0, none⟩) 64 64) 64 (rowB ys)) := hidIt (own_later HO5.out Hb6.out (by have := own_cellB HO5.out 0 (by omega); exact World.block_lt_of_cell? _ _ this))
  have HB6 : Hid (BoxAt w6 w.heap.size ds) := hidIt (HB5.out.later Hb6.out HB5.out.lt)
  go_wp2_with fail
  have hstr2 := str_of (w := w6.drew) HO6.out.drew
  have hu24 := Try.underlying24
  have hsz24 := HSZ24.out
  have HR6 : Hid (w6.drew.rangeAt w.heap.size 0 (rowB ds) ∧ w6.drew.ownsRow w3.heap.size 5 1 (.slice (some ⟨w3.heap.size, 0, none⟩) 64 64) 64 (rowB ys) ∧ (convert 25 9 (.slice (some ⟨w3.heap.size, 0, none⟩) 64 64)).run Try.prog w6.drew = .ok (.string ⟨ys.toArray⟩) w6.drew) :=
    hidIt ⟨range_box HB6.out, HO6.out.drew, str_of HO6.out.drew⟩
  clear hstr2
  go_region_held2 (fun w' => w'.rangeAt w.heap.size 0 (rowB ds) ∧ w'.ownsRow w3.heap.size 5 1 (.slice (some ⟨w3.heap.size, 0, none⟩) 64 64) 64 (rowB ys) ∧ (convert 25 9 (.slice (some ⟨w3.heap.size, 0, none⟩) 64 64)).run Try.prog w' = .ok (.string ⟨ys.toArray⟩) w')
    (first | exact HR6.out | (refine keep_all (by assumption) ?_; assumption))
    (first | (go_at_call 8; refine (sha8 _ _).mono ?_; rintro e w7 ⟨rfl, hb7⟩) | (go_at_call 10; refine (nib10 ds _ HD.out).mono ?_; rintro e w8 ⟨rfl, hb8⟩))
  go_wp2_with fail
  go_ret
  refine ⟨rfl, ?_⟩
  have b3 : Below w.heap.size w w3 := (((Below.refl _ _).alloc (Nat.le_refl _) _).trans (Hb2.out.mono (by omega))).trans (Hb3.out.mono (by omega))
  have b6 : Below w.heap.size w w6 := (b3.trans (Hb35.out.mono b3.size)).trans (Hb6.out.mono (Nat.le_trans b3.size Hb35.out.size))
  have b7 := b6.drew.trans (hb7.mono b6.size)
  exact b7.trans (hb8.mono b7.size)
end Go.Proofs.Qxb6603987a
