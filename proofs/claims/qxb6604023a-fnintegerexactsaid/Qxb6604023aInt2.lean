/- 'integer' at every slice and offset; its shim (function 7); zzCopyBytes (function 6); the bounds (functions 5, 12). -/
import Derived.Test.Qxb6604023aInt
import Derived.Laws.CopyOwn
namespace Go.Proofs.Qxb6604023a
open Go.ChangeShapes Go.WideShapes Go.ChangeAt Go.RowKit

theorem zz5_yes (a : Option Addr) (len cap : Nat) (i top : Int) (w : World) (h : len ≤ 1048576) :
    Calls Try.prog 5 #[.slice a len cap, .int .i64 i, .int .u64 top] w fun e w' => e = .returned (.bool true) ∧ w = w' := by
  go_enter Try.func5, Try.ntmps5
  go_wp2
  go_ret
  exact ⟨rfl, rfl⟩
theorem zz5_no (a : Option Addr) (len cap : Nat) (i top : Int) (w : World) (h : ¬ len ≤ 1048576) :
    Calls Try.prog 5 #[.slice a len cap, .int .i64 i, .int .u64 top] w fun e w' => e = .returned (.bool false) ∧ w = w' := by
  go_enter Try.func5, Try.ntmps5
  go_wp2
  go_ret
  exact ⟨rfl, rfl⟩
theorem zz12_yes (a : Option Addr) (len cap : Nat) (i top : Int) (w : World) (h : len ≤ 1048576) :
    Calls Try.prog 12 #[.slice a len cap, .int .i64 i, .int .u64 top] w fun e w' => e = .returned (.bool true) ∧ w = w' := by
  go_enter Try.func12, Try.ntmps12
  go_wp2
  go_ret
  exact ⟨rfl, rfl⟩
theorem zz12_no (a : Option Addr) (len cap : Nat) (i top : Int) (w : World) (h : ¬ len ≤ 1048576) :
    Calls Try.prog 12 #[.slice a len cap, .int .i64 i, .int .u64 top] w fun e w' => e = .returned (.bool false) ∧ w = w' := by
  go_enter Try.func12, Try.ntmps12
  go_wp2
  go_ret
  exact ⟨rfl, rfl⟩

/-- A minus sign that is the last byte: no integer. -/
theorem int13_lone (b off n cap : Nat) (l : List UInt8) (i : Nat) (top : Int) (w : World) (hi : i + 1 = n) (hn : n ≤ 1048576)
    (hc : ∀ t, t < n → w.cell? ⟨b, off + t, none⟩ = some (.int .u8 ((l.getD t 0).toNat : Int))) (hsg : isNeg (l.drop i) = true) :
    Calls Try.prog 13 #[.slice (some ⟨b, off, none⟩) n cap, .int .i64 (i : Int), .int .u64 top] w fun e w' => e = .returned (.tuple #[.int .i64 0, .int .i64 (-1)]) ∧ w = w' := by
  have hci : w.cell? ⟨b, off + i, none⟩ = some (.int .u8 45) := by
    have := of_decide_eq_true hsg
    rw [getD_drop, Nat.add_zero] at this
    rw [hc i (by omega), this]
    rfl
  have hin : i < n := by omega
  have hdn : decide ((i : Int) < (n : Int)) = true := by simp; omega
  have hge : (n : Int) ≤ (i : Int) + 1 := by omega
  have hde : decide ((i : Int) + 1 < (n : Int)) = false := by simp; omega
  clear hc hsg hi
  go_enter Try.func13, Try.ntmps13
  go_wp2
  refine wp_loop_rounds 1 ?_
  rw [rounds_succ]
  go_wp2
  go_ret2
  exact ⟨rfl, rfl⟩

/-- A slice whose elements are the bytes l. -/
def Src (w : World) (ao : Option Addr) (l : List UInt8) : Prop :=
  0 < l.length → ∃ b off, ao = some ⟨b, off, none⟩ ∧ ∀ t, t < l.length → w.cell? ⟨b, off + t, none⟩ = some (.int .u8 ((l.getD t 0).toNat : Int))

theorem res_nil (i : Nat) (top : Int) : res [] i top = (0, -1) := by simp [res, core_nil]
theorem res_lone {t : List UInt8} (i : Nat) (top : Int) (h : t.length = 1) (hs : isNeg t = true) : res t i top = (0, -1) := by
  apply res_none
  have : run t = [] := by
    unfold run
    rw [skip_neg hs, List.drop_of_length_le (by omega)]
    rfl
  rw [this]
  simp [fin]

theorem int13 (ao : Option Addr) (n cap : Nat) (l : List UInt8) (i : Nat) (top : Int) (w : World) (hn : n ≤ 1048576) (hl : l.length = n) (hsrc : Src w ao l) :
    Calls Try.prog 13 #[.slice ao n cap, .int .i64 (i : Int), .int .u64 top] w fun e w' => e = .returned (.tuple #[.int .i64 (res (l.drop i) i top).1, .int .i64 (res (l.drop i) i top).2]) ∧ w = w' := by
  by_cases hi : i < n
  · obtain ⟨b, off, rfl, hc⟩ := hsrc (by omega)
    rw [hl] at hc
    cases hsg : isNeg (l.drop i) with
    | false => exact int13_pos b off n cap l i top w hn hl hi hc hsg
    | true =>
      by_cases h1 : i + 1 < n
      · exact int13_neg b off n cap l i top w hn hl h1 hc hsg
      · rw [res_lone i top (by rw [List.length_drop]; omega) hsg]
        exact int13_lone b off n cap l i top w (by omega) hn hc hsg
  · rw [List.drop_of_length_le (by omega), res_nil]
    exact int13_end ao n cap (i : Int) top w (by omega)

theorem int7 (ao : Option Addr) (n cap : Nat) (l : List UInt8) (i : Nat) (top : Int) (w : World) (hn : n ≤ 1048576) (hl : l.length = n) (hsrc : Src w ao l) :
    Calls Try.prog 7 #[.slice ao n cap, .int .i64 (i : Int), .int .u64 top] w fun e w' => e = .returned (.tuple #[.int .i64 (res (l.drop i) i top).1, .int .i64 (res (l.drop i) i top).2]) ∧ w = w' := by
  go_enter Try.func7, Try.ntmps7
  go_wp2_with fail
  refine (int13 ao n cap l i top w hn hl hsrc).mono ?_
  rintro e w' ⟨rfl, rfl⟩
  go_wp2_with fail
  go_ret2
  exact ⟨rfl, rfl⟩

/-! ### zzCopyBytes -/
theorem Try.info5 : (Try.prog.info? 5).map (fun i => (i.zero, i.size, i.bytes)) = some (some (.int .u8 0), 1, 1) := by kernel_rfl
theorem Try.size5 : (Try.prog.info? 5).map (·.size) = some 1 := by kernel_rfl

def rowB (xs : List UInt8) : List Value := xs.map fun b => Value.int .u8 (b.toNat : Int)
theorem rowB_length (xs : List UInt8) : (rowB xs).length = xs.length := by simp [rowB]
theorem rowB_at (xs : List UInt8) (t : Nat) (h : t < xs.length) : (rowB xs)[t]? = some (.int .u8 ((xs.getD t 0).toNat : Int)) := by
  simp [rowB, h, List.getD]
theorem rowB_one (xs : List UInt8) : ∀ v ∈ rowB xs, v.oneCell' = true := by
  intro v hv
  obtain ⟨_, _, rfl⟩ := List.mem_map.1 hv
  rfl

/-- 'copy(c, b)' into a row of the call's own of the same length. -/
theorem wpList_copy_all {w : World} {ops : Array Oper} {rest : List Oper} {o : Oper} {a : Act} {Q : Exit → Act → World → Prop} (hgd : o.guard = none) (d s : Operand)
    (ho : o.op = .call { callee := .builtin .copy, args := #[d, s], argTypes := #[22, 22] }) (g n cap : Nat) (ad : Addr) (xs0 cs : List Value)
    (hd : a.eval d = .slice (some ⟨g, 0, none⟩) n n) (hs : a.eval s = .slice (some ad) n cap) (hown : w.ownsRow g 5 1 (.slice (some ⟨g, 0, none⟩) n n) n xs0) (hcs : cs.length = n)
    (hsrc : ∀ j v, cs[j]? = some v → w.cell? (ad.add j) = some v) (h1 : ∀ v ∈ cs, v.oneCell' = true)
    (h : ∀ w', w'.ownsRow g 5 1 (.slice (some ⟨g, 0, none⟩) n n) n cs → Below g w w' → wpList Try.prog ops Q rest (a.put o.dst (goInt n)) w') : wpList Try.prog ops Q (o :: rest) a w := by
  rcases hown.2 with ⟨h', _⟩ | ⟨g', cap', cur, h', hb, hg, hnc, hcm, hsz, htake⟩
  · simp at h'
  · simp only [Value.slice.injEq, Option.some.injEq, Addr.mk.injEq, and_true, true_and] at h'
    obtain ⟨rfl, rfl⟩ := h'
    refine wpList_copy_own hgd d s 22 22 ho 5 Try.underlying22 Try.size5 g 0 n n ad n cap hd hs cur 5 hg cs (by rw [hcs]; simp) hsrc (by omega) h1 ?_
    have e : (cur.toList.take 0 ++ (cs ++ cur.toList.drop (0 + cs.length))).toArray = cs.toArray := by
      rw [List.drop_of_length_le (by rw [Array.length_toList]; omega)]
      simp
    rw [e, hcs]
    refine h _ ⟨by simpa using hcs, .inr ⟨g, n, cs.toArray, rfl, Nat.le_refl _, setRow_heap w g cur cs.toArray 5 _ hg, Nat.le_refl _, hcm, by simpa using hcs, ?_⟩⟩ (below_setRow (Below.refl _ _) (Nat.le_refl _) _)
    exact List.take_of_length_le (by simp; omega)

theorem copy6_nil (w : World) : Calls Try.prog 6 #[.slice none 0 0] w fun e w' => e = .returned (.slice none 0 0) ∧ w = w' := by
  have q22 : ∀ (w : World) (a : Option Addr) (n c n' c' : Nat), (binOp .eql 22 (.slice a n c) (.slice none n' c')).run Try.prog w = .ok (.bool a.isNone) w := fun w a n c n' c' => Lib.run_eql_slice_nil w _ _ a n c n' c' Try.underlying22
  go_enter Try.func6, Try.ntmps6
  go_wp2
  go_ret
  exact ⟨rfl, rfl⟩

set_option maxHeartbeats 800000 in
theorem copy6_some (x : Addr) (n cap : Nat) (l : List UInt8) (w : World) (hn : n ≤ 1048576) (hl : l.length = n) (hc : ∀ t, t < n → w.cell? (x.add t) = some (.int .u8 ((l.getD t 0).toNat : Int))) :
    Calls Try.prog 6 #[.slice (some x) n cap] w fun e w' => e = .returned (.slice (some ⟨w.heap.size, 0, none⟩) n n) ∧
      (∀ t, t < n → w'.cell? ⟨w.heap.size, t, none⟩ = some (.int .u8 ((l.getD t 0).toNat : Int))) ∧ Below w.heap.size w w' := by
  obtain ⟨i0, hi, hz0, hz1, hz2⟩ := info_parts Try.info5
  have q22 : ∀ (w : World) (a : Option Addr) (n c n' c' : Nat), (binOp .eql 22 (.slice a n c) (.slice none n' c')).run Try.prog w = .ok (.bool a.isNone) w := fun w a n c n' c' => Lib.run_eql_slice_nil w _ _ a n c n' c' Try.underlying22
  have HC := hidIt hc
  have HL := hidIt hl
  clear hc hl
  go_enter Try.func6, Try.ntmps6
  go_wp2_with (at_make; refine wpList_make_full _ rfl _ _ 22 rfl w.heap.size 5 i0 (.int .u8 0) 1 Try.underlying22 hi hz0 hz1 _ _ _ _ n rfl rfl rfl rfl ?b2 ?b3 (Nat.le_refl _) ?_)
  case b2 => rw [hz2]; omega
  case b3 => unfold maxLen; omega
  intro w2 hown2 hgrow2
  have Hb2 : Hid (Below w.heap.size w w2) := hidIt ((Below.refl _ _).grown hgrow2 (Nat.le_refl _) (fun k h => by cases h))
  have HO2 := hidIt hown2
  clear hown2 hgrow2
  have HSRC : Hid (∀ j v, (rowB l)[j]? = some v → w2.cell? (x.add j) = some v) := hidIt (fun j v hv => by
    have hj : j < l.length := by have := (List.getElem?_eq_some_iff.1 hv).1; rwa [rowB_length] at this
    rw [rowB_at l j hj] at hv
    rw [← hv]
    exact cell_later Hb2.out (HC.out j (by rw [← HL.out]; exact hj)))
  go_wp2_with ((with_reducible refine wpList_copy_all ?_ (.tmp 9) (.tmp 10) ?_ w.heap.size n cap x _ (rowB l) ?_ ?_ HO2.out ?_ HSRC.out (rowB_one l) ?_); exact rfl; exact rfl; exact rfl; exact rfl; exact (rowB_length l).trans HL.out)
  intro w3 hown3 hb3
  have H3 : Hid (∀ t, t < n → w3.cell? ⟨w.heap.size, t, none⟩ = some (.int .u8 ((l.getD t 0).toNat : Int))) := hidIt (fun t ht => by
    rw [hown3.cellAt t (by omega)]
    exact rowB_at l t (by rw [HL.out]; exact ht))
  have Hb3 := hidIt hb3
  clear hown3 hb3
  go_wp2_with fail
  go_ret
  exact ⟨rfl, H3.out, Hb2.out.trans Hb3.out⟩
end Go.Proofs.Qxb6604023a
