/- The walk of FnIntegerExact (function 3). -/
import Derived.Test.Qxb6604023aAtMost
import Derived.Test.Qxb6604023aExPlain
import Derived.Test.Qxb6604023aLocal
namespace Go.Proofs.Qxb6604023a
open Go.ChangeShapes Go.WideShapes Go.ChangeAt Go.RowKit

theorem ex_long (a : Option Addr) (n cap : Nat) (i top : Int) (w : World) (h : ¬ n ≤ 1048576) :
    Calls Try.prog 3 #[.slice a n cap, .int .i64 i, .int .u64 top] w fun e w' => e = .returned (.bool true) ∧ Below w.heap.size w w' := by
  go_enter Try.func3, Try.ntmps3
  go_wp2_with (go_at_call 5; refine (zz5_no _ _ _ _ _ _ h).mono ?_; rintro e w' ⟨rfl, rfl⟩)
  go_ret
  exact ⟨rfl, Below.refl _ _⟩

theorem ex_out (a : Option Addr) (n cap : Nat) (i top : Int) (w : World) (h : n ≤ 1048576) (hi : i < 0 ∨ 9223372036854775807 < top) :
    Calls Try.prog 3 #[.slice a n cap, .int .i64 i, .int .u64 top] w fun e w' => e = .returned (.bool true) ∧ Below w.heap.size w w' := by
  by_cases h0 : i < 0
  · go_enter Try.func3, Try.ntmps3
    go_wp2_with (go_at_call 5; refine (zz5_yes _ _ _ _ _ _ h).mono ?_; rintro e w' ⟨rfl, rfl⟩)
    go_ret
    exact ⟨rfl, Below.refl _ _⟩
  · have h1 : 9223372036854775807 < top := by omega
    go_enter Try.func3, Try.ntmps3
    go_wp2_with (go_at_call 5; refine (zz5_yes _ _ _ _ _ _ h).mono ?_; rintro e w' ⟨rfl, rfl⟩)
    go_ret
    exact ⟨rfl, Below.refl _ _⟩

/-- The nil slice. -/
theorem ex_nil (i : Nat) (top : Nat) (w : World) (ht : top ≤ 9223372036854775807) :
    Calls Try.prog 3 #[.slice none 0 0, .int .i64 (i : Int), .int .u64 (top : Int)] w fun e w' => e = .returned (.bool true) ∧ Below w.heap.size w w' := by
  have d1 : decide ((i : Int) < 0) = false := by simp
  have d2 : decide ((9223372036854775807 : Int) < (top : Int)) = false := by simp; omega
  go_enter Try.func3, Try.ntmps3
  go_wp2_with (first | (go_at_call 5; refine (zz5_yes _ _ _ _ _ _ (by omega)).mono ?_; rintro e w' ⟨rfl, rfl⟩) | (go_at_call 6; refine (copy6_nil _).mono ?_; rintro e w' ⟨rfl, rfl⟩) | (go_at_call 7; refine (int7_at none 0 0 [] i top _ (by omega) rfl (src_nil _ _) 0 (-1) (by rw [List.drop_nil]; exact res_nil i top)).mono ?_; rintro e w' ⟨rfl, rfl⟩))
  refine wp_loop_rounds 1 ?_
  rw [rounds_succ]
  go_wp2
  go_ret
  exact ⟨rfl, Below.refl _ _⟩

set_option maxHeartbeats 800000 in
/-- At or behind the end. -/
theorem ex_end (x : Addr) (n cap : Nat) (l : List UInt8) (i top : Nat) (w : World) (hn : n ≤ 1048576) (hl : l.length = n) (hc : ∀ t, t < n → w.cell? (x.add t) = some (.int .u8 ((l.getD t 0).toNat : Int)))
    (ht : top ≤ 9223372036854775807) (hni : n ≤ i) :
    Calls Try.prog 3 #[.slice (some x) n cap, .int .i64 (i : Int), .int .u64 (top : Int)] w fun e w' => e = .returned (.bool true) ∧ Below w.heap.size w w' := by
  have d1 : decide ((i : Int) < 0) = false := by simp
  have d2 : decide ((9223372036854775807 : Int) < (top : Int)) = false := by simp; omega
  have d3 : decide ((i : Int) < (n : Int)) = false := by simp; omega
  have HC := hidIt hc
  have HL := hidIt hl
  clear hc hl
  go_enter Try.func3, Try.ntmps3
  go_wp2_with (first | (go_at_call 5; refine (zz5_yes _ _ _ _ _ _ hn).mono ?_; rintro e w' ⟨rfl, rfl⟩))
  refine (copy6_some x n cap l w hn HL.out HC.out).mono ?_
  rintro e w1 ⟨rfl, hc1, hb1⟩
  have HC1 := hidIt hc1
  have Hb1 := hidIt hb1
  clear hc1 hb1
  go_wp2_with fail
  refine (int7_at (some ⟨w.heap.size, 0, none⟩) n n l i top w1 hn HL.out (src_of HL.out HC1.out) 0 (-1) (by rw [List.drop_of_length_le (by rw [HL.out]; exact hni)]; exact res_nil i top)).mono ?_
  rintro e w2 ⟨rfl, rfl⟩
  go_wp2_with fail
  refine wp_loop_rounds 1 ?_
  rw [rounds_succ]
  go_wp2
  go_ret
  exact ⟨rfl, Hb1.out⟩

/-! ### Inside the line -/
theorem str_sub {w : World} {g s m c : Nat} {D : List UInt8} (hD : D.length = m) (hc : ∀ t, t < m → w.cell? ⟨g, s + t, none⟩ = some (.int .u8 ((D.getD t 0).toNat : Int))) :
    (convert 22 9 (.slice (some ⟨g, s, none⟩) m c)).run Try.prog w = .ok (.string ⟨D.toArray⟩) w := by
  have := run_convert_bytes_back (P := Try.prog) w 22 9 5 ⟨g, s, none⟩ c D Try.underlying22 Try.underlying5 Try.underlying9 (fun j hj => by
    rw [Addr.add_lit, hc j (by omega)]
    simp [List.getD, hj])
  rw [hD] at this
  exact this

theorem sub_src {w : World} {g s Q n : Nat} {l D : List UInt8} (hDl : D.length = Q - s) (hDg : ∀ t, t < Q - s → D.getD t 0 = l.getD (s + t) 0) (hQ : Q ≤ n) (hc : ∀ t, t < n → w.cell? ⟨g, t, none⟩ = some (.int .u8 ((l.getD t 0).toNat : Int))) :
    Src w (some ⟨g, s, none⟩) D := fun _ => ⟨g, s, rfl, fun t ht => by rw [hDg t (by omega)]; exact hc (s + t) (by omega)⟩

theorem utoa9_at (y : Int) (u : Nat) (hy : y = (u : Int)) (hu : u < 18446744073709551616) (w : World) :
    Calls Try.prog 9 #[.int .u64 y] w fun e w' => ∃ E : List UInt8, e = .returned (.string ⟨E.toArray⟩) ∧ IsDec E u ∧ Below w.heap.size w w' := by
  subst hy
  exact utoa9 u hu w

theorem val_one {D : List UInt8} (h : D.length = 1) : val D = (D.getD 0 0).toNat - 48 := by
  match D, h with
  | [b], _ => simp [val]

theorem pair_no {r : Int × Int} {v j : Int} (h : r = (v, j)) (h' : r = (0, -1)) : v = 0 ∧ j = -1 := by
  rw [h] at h'
  exact ⟨(Prod.mk.inj h').1, (Prod.mk.inj h').2⟩

section
variable {l : List UInt8} {i top : Nat} {v j : Int}

theorem no_first (hres : res (l.drop i) i (top : Int) = (v, j)) (h : ¬ (1 ≤ (run (l.drop i)).length ∧ ((run (l.drop i)).length = 1 ∨ ((run (l.drop i)).getD 0 0).toNat ≠ 48))) : v = 0 ∧ j = -1 :=
  pair_no hres (res_none (fin_no0 h))
theorem no_bound (hres : res (l.drop i) i (top : Int) = (v, j)) (ht : top ≤ 9223372036854775807) {u : Nat} (hd : IsDec (run (l.drop i)) u) (h : lim (isNeg (l.drop i)) top < u) : v = 0 ∧ j = -1 :=
  pair_no hres (res_none (fin_no ht hd h))
theorem yes_bound (hres : res (l.drop i) i (top : Int) = (v, j)) (ht : top ≤ 9223372036854775807) {u : Nat} (hd : IsDec (run (l.drop i)) u) (h : u ≤ lim (isNeg (l.drop i)) top) : v = sgn (isNeg (l.drop i)) u ∧ j = (fence l i : Int) := by
  rw [res_some (fin_yes ht hd h)] at hres
  obtain ⟨h1, h2⟩ := Prod.mk.inj hres
  refine ⟨h1.symm, ?_⟩
  rw [← h2]
  unfold fence beg
  omega
end

set_option maxHeartbeats 6400000 in
theorem ex_pos_stop (x : Addr) (n cap : Nat) (l : List UInt8) (i Q top : Nat) (w : World) (hn : n ≤ 1048576) (hl : l.length = n) (hc : ∀ t, t < n → w.cell? (x.add t) = some (.int .u8 ((l.getD t 0).toNat : Int)))
    (ht : top ≤ 9223372036854775807) (hi : i < n) (hsg : isNeg (l.drop i) = false) (hQ : fence l i = Q) (hQn : Q < n) (hQd : isDig (l.getD Q 0) = false) :
    Calls Try.prog 3 #[.slice (some x) n cap, .int .i64 (i : Int), .int .u64 (top : Int)] w fun e w' => e = .returned (.bool true) ∧ Below w.heap.size w w' := by
  obtain ⟨c0, hc0⟩ : ∃ c : Nat, (l.getD i 0).toNat = c := ⟨_, rfl⟩
  have hs : beg l i = i := by unfold beg; rw [skip_pos hsg]; rfl
  have d1 : decide ((i : Int) < 0) = false := by simp
  have d2 : decide ((9223372036854775807 : Int) < (top : Int)) = false := by simp; omega
  have d3 : decide ((i : Int) < (n : Int)) = true := by simp; omega
  have hci := hc0
  have d4 : ((c0 : Int) == 45) = false := by
    have := of_decide_eq_false hsg
    rw [getD_drop, Nat.add_zero, hci] at this
    simp; omega
  have hiQ : i ≤ Q := by rw [← hQ]; unfold fence; omega
  have hQn' : Q ≤ n := by omega
  have HF : Hid (∀ k, i ≤ k → k < Q → isDig (l.getD k 0) = true) := hidIt (fun k h1 h2 => fence_dig (l := l) (i := i) k (by omega) (by omega))
  obtain ⟨v, j, hres⟩ : ∃ v j, res (l.drop i) i (top : Int) = (v, j) := ⟨_, _, rfl⟩
  obtain ⟨D, hD⟩ : ∃ D, run (l.drop i) = D := ⟨_, rfl⟩
  have hDl : D.length = Q - i := by rw [← hD, ← hQ]; unfold fence; omega
  have hDg : ∀ t, t < Q - i → D.getD t 0 = l.getD (i + t) 0 := fun t h => by rw [← hD, (run_get t (by rw [hD, hDl]; exact h)).1, hs]
  have hD0 : 0 < Q - i → (D.getD 0 0).toNat = c0 := fun h => by rw [hDg 0 h, Nat.add_zero]; exact hc0
  have HRES := hidIt hres
  have HC := hidIt hc
  have HL := hidIt hl
  have HSG := hidIt hsg
  have HQ := hidIt hQ
  have HD := hidIt hD
  have HDL := hidIt hDl
  have HDG := hidIt hDg
  have HD0 := hidIt hD0
  have HC0 := hidIt hc0
  have HQD := hidIt hQd
  have HCI := hidIt hci
  clear hc hl hres hsg hs hQ hD hDl hDg hD0 hc0 hQd hci
  go_enter Try.func3, Try.ntmps3
  go_wp2_with (first | (go_at_call 5; refine (zz5_yes _ _ _ _ _ _ hn).mono ?_; rintro e w' ⟨rfl, rfl⟩))
  refine (copy6_some x n cap l w hn HL.out HC.out).mono ?_
  rintro e w1 ⟨rfl, hc1, hb1⟩
  have HC1 := hidIt hc1
  have Hb1 := hidIt hb1
  have hcell : w1.cell? ⟨w.heap.size, i, none⟩ = some (.int .u8 (c0 : Int)) := by rw [hc1 i hi, HCI.out]
  clear hc1 hb1
  go_wp2_with fail
  refine (int7_at (some ⟨w.heap.size, 0, none⟩) n n l i top w1 hn HL.out (src_of HL.out HC1.out) v j HRES.out).mono ?_
  rintro e w2 ⟨rfl, rfl⟩
  go_wp2_with fail
  go_loop [11] (fun q => ∃ k : Nat, i ≤ k ∧ k ≤ Q ∧ q = .int .i64 (k : Int)) (fun q => Q - (intOf q).toNat)
  case atStart => exact ⟨i, Nat.le_refl _, hiQ, by go_num⟩
  case round =>
    obtain ⟨k, hk1, hk2, rfl⟩ := hrel
    by_cases hlt : k < Q
    · obtain ⟨c, hcc⟩ : ∃ c : Nat, (l.getD k 0).toNat = c := ⟨_, rfl⟩
      have hck : w1.cell? ⟨w.heap.size, k, none⟩ = some (.int .u8 (c : Int)) := by rw [HC1.out k (by omega), hcc]
      have d5 : decide ((k : Int) < (n : Int)) = true := by simp; omega
      have hg := isDig_cases (HF.out k hk1 hlt)
      rw [hcc] at hg
      clear hcc
      go_wp2_with (go_at_call 8; refine (dig_yes c hg.1 hg.2 _).mono ?_; rintro e w' ⟨rfl, rfl⟩)
      go_round
      case rel => exact ⟨k + 1, by omega, by omega, by go_num⟩
      case measure => simp [intOf]; omega
    · obtain rfl : Q = k := by omega
      obtain ⟨c, hcc⟩ : ∃ c : Nat, (l.getD Q 0).toNat = c := ⟨_, rfl⟩
      have hck : w1.cell? ⟨w.heap.size, Q, none⟩ = some (.int .u8 (c : Int)) := by rw [HC1.out Q (by omega), hcc]
      have d5 : decide ((Q : Int) < (n : Int)) = true := by simp; omega
      have HG : Hid (¬ (48 ≤ c ∧ c ≤ 57)) := hidIt (fun hh => by
        have h1 := HQD.out
        rw [isDig_true (by rw [hcc]; exact hh)] at h1
        cases h1)
      clear hcc
      rcases (show Q = i ∨ (i + 2 ≤ Q ∧ c0 = 48) ∨ Q = i + 1 ∨ (i + 2 ≤ Q ∧ c0 ≠ 48) from by omega) with h0 | ⟨h0, hz⟩ | h0 | ⟨h0, hz⟩
      · -- no digit
        obtain ⟨rfl, rfl⟩ := no_first HRES.out (by rw [HD.out, HDL.out]; omega)
        have t1 : decide ((1 : Int) ≤ (Q : Int) - (i : Int)) = false := by simp; omega
        have HH := hidIt h0
        clear h0
        go_wp2_with (go_at_call 8; refine (dig_no c HG.out _).mono ?_; rintro e w' ⟨rfl, rfl⟩)
        go_ret
        exact ⟨rfl, Hb1.out⟩
      · -- a leading zero
        obtain ⟨rfl, rfl⟩ := no_first HRES.out (by rw [HD.out, HDL.out, HD0.out (by omega)]; omega)
        have t1 : decide ((1 : Int) ≤ (Q : Int) - (i : Int)) = true := by simp; omega
        have t2 : ((Q : Int) - (i : Int) == 1) = false := by simp; omega
        have t3 : ((c0 : Int) != 48) = false := by simp; omega
        have HZ := hidIt hz
        clear hz
        go_wp2_with (go_at_call 8; refine (dig_no c HG.out _).mono ?_; rintro e w' ⟨rfl, rfl⟩)
        go_ret
        exact ⟨rfl, Hb1.out⟩
      · -- one digit
        have hdec : IsDec D (val D) := by
          have := run_dec (l := l) (i := i) (by rw [HD.out, HDL.out]; omega)
          rwa [HD.out] at this
        have t1 : decide ((1 : Int) ≤ (Q : Int) - (i : Int)) = true := by simp; omega
        have t2 : ((Q : Int) - (i : Int) == 1) = true := by simp; omega
        have hm1 : i + 1 ≤ Q := by omega
        have HH := hidIt h0
        clear h0
        obtain ⟨u, hu⟩ : ∃ u, val D = u := ⟨_, rfl⟩
        rw [hu] at hdec
        have HDEC := hidIt hdec
        clear hdec hu
        go_wp2_with (go_at_call 8; refine (dig_no c HG.out _).mono ?_; rintro e w' ⟨rfl, rfl⟩)
        refine (utoa9 top (by omega) w1).mono ?_
        rintro e w3 ⟨E, rfl, hE, hb3⟩
        have HE := hidIt hE
        have Hb3 : Hid (Below w.heap.size w w3) := hidIt (Hb1.out.trans (hb3.mono Hb1.out.size))
        have HC3 : Hid (∀ t, t < n → w3.cell? ⟨w.heap.size, t, none⟩ = some (.int .u8 ((l.getD t 0).toNat : Int))) := hidIt (fun t ht' => cell_later hb3 (HC1.out t ht'))
        clear hE hb3
        go_wp2_with fail
        refine (am10 (some ⟨w.heap.size, i, none⟩) (Q - i) (n - i) D E w3 HDL.out (by omega) (by have := HE.out.len (by omega); omega) (by omega) (sub_src HDL.out HDG.out hQn' HC3.out)).mono ?_
        rintro e w4 ⟨rfl, hb4⟩
        have Hb4 : Hid (Below w.heap.size w w4) := hidIt (Hb3.out.trans (hb4.mono Hb3.out.size))
        have HC4 : Hid (∀ t, t < n → w4.cell? ⟨w.heap.size, t, none⟩ = some (.int .u8 ((l.getD t 0).toNat : Int))) := hidIt (fun t ht' => cell_later hb4 (HC3.out t ht'))
        have hat := atMost_val HDEC.out HE.out
        clear hb4
        by_cases hle : u ≤ top
        · rw [decide_eq_true hle] at hat
          obtain ⟨hv, hj⟩ := yes_bound HRES.out ht (u := u) (by rw [HD.out]; exact HDEC.out) (by rw [HSG.out]; exact hle)
          rw [HSG.out] at hv
          rw [HQ.out] at hj
          obtain rfl : v = (u : Int) := hv
          subst hj
          have hstr := str_sub (w := w4) (g := w.heap.size) (s := i) (c := n - i) HDL.out (fun t ht' => by rw [HC4.out (i + t) (by omega), HDG.out t ht'])
          have hcell4 := HC4.out i (by omega)
          rw [HC0.out] at hcell4
          go_wp2_with fail
          refine (itoa_pos u (by omega) w4).mono ?_
          rintro e w5 ⟨E2, rfl, hE2, hb5⟩
          obtain rfl : D = E2 := HDEC.out.unique hE2
          have Hb5 : Hid (Below w.heap.size w w5) := hidIt (Hb4.out.trans (hb5.mono Hb4.out.size))
          clear hE2 hb5
          go_wp2_with fail
          go_ret
          exact ⟨rfl, Hb5.out⟩
        · rw [decide_eq_false hle] at hat
          obtain ⟨rfl, rfl⟩ := no_bound HRES.out ht (u := u) (by rw [HD.out]; exact HDEC.out) (by rw [HSG.out]; show top < u; omega)
          go_wp2_with fail
          go_ret
          exact ⟨rfl, Hb4.out⟩
      · -- more digits
        have hdec : IsDec D (val D) := by
          have := run_dec (l := l) (i := i) (by rw [HD.out, HDL.out, HD0.out (by omega)]; omega)
          rwa [HD.out] at this
        have t1 : decide ((1 : Int) ≤ (Q : Int) - (i : Int)) = true := by simp; omega
        have t2 : ((Q : Int) - (i : Int) == 1) = false := by simp; omega
        have t3 : ((c0 : Int) != 48) = true := by simp; omega
        have hm1 : i + 1 ≤ Q := by omega
        have HZ := hidIt hz
        clear hz
        obtain ⟨u, hu⟩ : ∃ u, val D = u := ⟨_, rfl⟩
        rw [hu] at hdec
        have HDEC := hidIt hdec
        clear hdec hu
        go_wp2_with (go_at_call 8; refine (dig_no c HG.out _).mono ?_; rintro e w' ⟨rfl, rfl⟩)
        refine (utoa9 top (by omega) w1).mono ?_
        rintro e w3 ⟨E, rfl, hE, hb3⟩
        have HE := hidIt hE
        have Hb3 : Hid (Below w.heap.size w w3) := hidIt (Hb1.out.trans (hb3.mono Hb1.out.size))
        have HC3 : Hid (∀ t, t < n → w3.cell? ⟨w.heap.size, t, none⟩ = some (.int .u8 ((l.getD t 0).toNat : Int))) := hidIt (fun t ht' => cell_later hb3 (HC1.out t ht'))
        clear hE hb3
        go_wp2_with fail
        refine (am10 (some ⟨w.heap.size, i, none⟩) (Q - i) (n - i) D E w3 HDL.out (by omega) (by have := HE.out.len (by omega); omega) (by omega) (sub_src HDL.out HDG.out hQn' HC3.out)).mono ?_
        rintro e w4 ⟨rfl, hb4⟩
        have Hb4 : Hid (Below w.heap.size w w4) := hidIt (Hb3.out.trans (hb4.mono Hb3.out.size))
        have HC4 : Hid (∀ t, t < n → w4.cell? ⟨w.heap.size, t, none⟩ = some (.int .u8 ((l.getD t 0).toNat : Int))) := hidIt (fun t ht' => cell_later hb4 (HC3.out t ht'))
        have hat := atMost_val HDEC.out HE.out
        clear hb4
        by_cases hle : u ≤ top
        · rw [decide_eq_true hle] at hat
          obtain ⟨hv, hj⟩ := yes_bound HRES.out ht (u := u) (by rw [HD.out]; exact HDEC.out) (by rw [HSG.out]; exact hle)
          rw [HSG.out] at hv
          rw [HQ.out] at hj
          obtain rfl : v = (u : Int) := hv
          subst hj
          have hstr := str_sub (w := w4) (g := w.heap.size) (s := i) (c := n - i) HDL.out (fun t ht' => by rw [HC4.out (i + t) (by omega), HDG.out t ht'])
          have hcell4 := HC4.out i (by omega)
          rw [HC0.out] at hcell4
          go_wp2_with fail
          refine (itoa_pos u (by omega) w4).mono ?_
          rintro e w5 ⟨E2, rfl, hE2, hb5⟩
          obtain rfl : D = E2 := HDEC.out.unique hE2
          have Hb5 : Hid (Below w.heap.size w w5) := hidIt (Hb4.out.trans (hb5.mono Hb4.out.size))
          clear hE2 hb5
          go_wp2_with fail
          go_ret
          exact ⟨rfl, Hb5.out⟩
        · rw [decide_eq_false hle] at hat
          obtain ⟨rfl, rfl⟩ := no_bound HRES.out ht (u := u) (by rw [HD.out]; exact HDEC.out) (by rw [HSG.out]; show top < u; omega)
          go_wp2_with fail
          go_ret
          exact ⟨rfl, Hb4.out⟩

set_option maxHeartbeats 6400000 in
theorem ex_pos_end (x : Addr) (n cap : Nat) (l : List UInt8) (i Q top : Nat) (w : World) (hn : n ≤ 1048576) (hl : l.length = n) (hc : ∀ t, t < n → w.cell? (x.add t) = some (.int .u8 ((l.getD t 0).toNat : Int)))
    (ht : top ≤ 9223372036854775807) (hi : i < n) (hsg : isNeg (l.drop i) = false) (hQ : fence l i = Q) (hQn : Q = n) :
    Calls Try.prog 3 #[.slice (some x) n cap, .int .i64 (i : Int), .int .u64 (top : Int)] w fun e w' => e = .returned (.bool true) ∧ Below w.heap.size w w' := by
  obtain ⟨c0, hc0⟩ : ∃ c : Nat, (l.getD i 0).toNat = c := ⟨_, rfl⟩
  have hs : beg l i = i := by unfold beg; rw [skip_pos hsg]; rfl
  have d1 : decide ((i : Int) < 0) = false := by simp
  have d2 : decide ((9223372036854775807 : Int) < (top : Int)) = false := by simp; omega
  have d3 : decide ((i : Int) < (n : Int)) = true := by simp; omega
  have hci := hc0
  have d4 : ((c0 : Int) == 45) = false := by
    have := of_decide_eq_false hsg
    rw [getD_drop, Nat.add_zero, hci] at this
    simp; omega
  have hiQ : i ≤ Q := by rw [← hQ]; unfold fence; omega
  have hQn' : Q ≤ n := by omega
  have HF : Hid (∀ k, i ≤ k → k < Q → isDig (l.getD k 0) = true) := hidIt (fun k h1 h2 => fence_dig (l := l) (i := i) k (by omega) (by omega))
  obtain ⟨v, j, hres⟩ : ∃ v j, res (l.drop i) i (top : Int) = (v, j) := ⟨_, _, rfl⟩
  obtain ⟨D, hD⟩ : ∃ D, run (l.drop i) = D := ⟨_, rfl⟩
  have hDl : D.length = Q - i := by rw [← hD, ← hQ]; unfold fence; omega
  have hDg : ∀ t, t < Q - i → D.getD t 0 = l.getD (i + t) 0 := fun t h => by rw [← hD, (run_get t (by rw [hD, hDl]; exact h)).1, hs]
  have hD0 : 0 < Q - i → (D.getD 0 0).toNat = c0 := fun h => by rw [hDg 0 h, Nat.add_zero]; exact hc0
  have HRES := hidIt hres
  have HC := hidIt hc
  have HL := hidIt hl
  have HSG := hidIt hsg
  have HQ := hidIt hQ
  have HD := hidIt hD
  have HDL := hidIt hDl
  have HDG := hidIt hDg
  have HD0 := hidIt hD0
  have HC0 := hidIt hc0
  have hQge : n ≤ Q := by omega
  have HCI := hidIt hci
  clear hc hl hres hsg hs hQ hD hDl hDg hD0 hc0 hQn hci
  go_enter Try.func3, Try.ntmps3
  go_wp2_with (first | (go_at_call 5; refine (zz5_yes _ _ _ _ _ _ hn).mono ?_; rintro e w' ⟨rfl, rfl⟩))
  refine (copy6_some x n cap l w hn HL.out HC.out).mono ?_
  rintro e w1 ⟨rfl, hc1, hb1⟩
  have HC1 := hidIt hc1
  have Hb1 := hidIt hb1
  have hcell : w1.cell? ⟨w.heap.size, i, none⟩ = some (.int .u8 (c0 : Int)) := by rw [hc1 i hi, HCI.out]
  clear hc1 hb1
  go_wp2_with fail
  refine (int7_at (some ⟨w.heap.size, 0, none⟩) n n l i top w1 hn HL.out (src_of HL.out HC1.out) v j HRES.out).mono ?_
  rintro e w2 ⟨rfl, rfl⟩
  go_wp2_with fail
  go_loop [11] (fun q => ∃ k : Nat, i ≤ k ∧ k ≤ Q ∧ q = .int .i64 (k : Int)) (fun q => Q - (intOf q).toNat)
  case atStart => exact ⟨i, Nat.le_refl _, hiQ, by go_num⟩
  case round =>
    obtain ⟨k, hk1, hk2, rfl⟩ := hrel
    by_cases hlt : k < Q
    · obtain ⟨c, hcc⟩ : ∃ c : Nat, (l.getD k 0).toNat = c := ⟨_, rfl⟩
      have hck : w1.cell? ⟨w.heap.size, k, none⟩ = some (.int .u8 (c : Int)) := by rw [HC1.out k (by omega), hcc]
      have d5 : decide ((k : Int) < (n : Int)) = true := by simp; omega
      have hg := isDig_cases (HF.out k hk1 hlt)
      rw [hcc] at hg
      clear hcc
      go_wp2_with (go_at_call 8; refine (dig_yes c hg.1 hg.2 _).mono ?_; rintro e w' ⟨rfl, rfl⟩)
      go_round
      case rel => exact ⟨k + 1, by omega, by omega, by go_num⟩
      case measure => simp [intOf]; omega
    · obtain rfl : Q = k := by omega
      have d5 : decide ((Q : Int) < (n : Int)) = false := by simp; omega
      rcases (show Q = i ∨ (i + 2 ≤ Q ∧ c0 = 48) ∨ Q = i + 1 ∨ (i + 2 ≤ Q ∧ c0 ≠ 48) from by omega) with h0 | ⟨h0, hz⟩ | h0 | ⟨h0, hz⟩
      · -- no digit
        obtain ⟨rfl, rfl⟩ := no_first HRES.out (by rw [HD.out, HDL.out]; omega)
        have t1 : decide ((1 : Int) ≤ (Q : Int) - (i : Int)) = false := by simp; omega
        have HH := hidIt h0
        clear h0
        go_wp2_with fail
        go_ret
        exact ⟨rfl, Hb1.out⟩
      · -- a leading zero
        obtain ⟨rfl, rfl⟩ := no_first HRES.out (by rw [HD.out, HDL.out, HD0.out (by omega)]; omega)
        have t1 : decide ((1 : Int) ≤ (Q : Int) - (i : Int)) = true := by simp; omega
        have t2 : ((Q : Int) - (i : Int) == 1) = false := by simp; omega
        have t3 : ((c0 : Int) != 48) = false := by simp; omega
        have HZ := hidIt hz
        clear hz
        go_wp2_with fail
        go_ret
        exact ⟨rfl, Hb1.out⟩
      · -- one digit
        have hdec : IsDec D (val D) := by
          have := run_dec (l := l) (i := i) (by rw [HD.out, HDL.out]; omega)
          rwa [HD.out] at this
        have t1 : decide ((1 : Int) ≤ (Q : Int) - (i : Int)) = true := by simp; omega
        have t2 : ((Q : Int) - (i : Int) == 1) = true := by simp; omega
        have hm1 : i + 1 ≤ Q := by omega
        have HH := hidIt h0
        clear h0
        obtain ⟨u, hu⟩ : ∃ u, val D = u := ⟨_, rfl⟩
        rw [hu] at hdec
        have HDEC := hidIt hdec
        clear hdec hu
        go_wp2_with fail
        refine (utoa9 top (by omega) w1).mono ?_
        rintro e w3 ⟨E, rfl, hE, hb3⟩
        have HE := hidIt hE
        have Hb3 : Hid (Below w.heap.size w w3) := hidIt (Hb1.out.trans (hb3.mono Hb1.out.size))
        have HC3 : Hid (∀ t, t < n → w3.cell? ⟨w.heap.size, t, none⟩ = some (.int .u8 ((l.getD t 0).toNat : Int))) := hidIt (fun t ht' => cell_later hb3 (HC1.out t ht'))
        clear hE hb3
        go_wp2_with fail
        refine (am10 (some ⟨w.heap.size, i, none⟩) (Q - i) (n - i) D E w3 HDL.out (by omega) (by have := HE.out.len (by omega); omega) (by omega) (sub_src HDL.out HDG.out hQn' HC3.out)).mono ?_
        rintro e w4 ⟨rfl, hb4⟩
        have Hb4 : Hid (Below w.heap.size w w4) := hidIt (Hb3.out.trans (hb4.mono Hb3.out.size))
        have HC4 : Hid (∀ t, t < n → w4.cell? ⟨w.heap.size, t, none⟩ = some (.int .u8 ((l.getD t 0).toNat : Int))) := hidIt (fun t ht' => cell_later hb4 (HC3.out t ht'))
        have hat := atMost_val HDEC.out HE.out
        clear hb4
        by_cases hle : u ≤ top
        · rw [decide_eq_true hle] at hat
          obtain ⟨hv, hj⟩ := yes_bound HRES.out ht (u := u) (by rw [HD.out]; exact HDEC.out) (by rw [HSG.out]; exact hle)
          rw [HSG.out] at hv
          rw [HQ.out] at hj
          obtain rfl : v = (u : Int) := hv
          subst hj
          have hstr := str_sub (w := w4) (g := w.heap.size) (s := i) (c := n - i) HDL.out (fun t ht' => by rw [HC4.out (i + t) (by omega), HDG.out t ht'])
          have hcell4 := HC4.out i (by omega)
          rw [HC0.out] at hcell4
          go_wp2_with fail
          refine (itoa_pos u (by omega) w4).mono ?_
          rintro e w5 ⟨E2, rfl, hE2, hb5⟩
          obtain rfl : D = E2 := HDEC.out.unique hE2
          have Hb5 : Hid (Below w.heap.size w w5) := hidIt (Hb4.out.trans (hb5.mono Hb4.out.size))
          clear hE2 hb5
          go_wp2_with fail
          go_ret
          exact ⟨rfl, Hb5.out⟩
        · rw [decide_eq_false hle] at hat
          obtain ⟨rfl, rfl⟩ := no_bound HRES.out ht (u := u) (by rw [HD.out]; exact HDEC.out) (by rw [HSG.out]; show top < u; omega)
          go_wp2_with fail
          go_ret
          exact ⟨rfl, Hb4.out⟩
      · -- more digits
        have hdec : IsDec D (val D) := by
          have := run_dec (l := l) (i := i) (by rw [HD.out, HDL.out, HD0.out (by omega)]; omega)
          rwa [HD.out] at this
        have t1 : decide ((1 : Int) ≤ (Q : Int) - (i : Int)) = true := by simp; omega
        have t2 : ((Q : Int) - (i : Int) == 1) = false := by simp; omega
        have t3 : ((c0 : Int) != 48) = true := by simp; omega
        have hm1 : i + 1 ≤ Q := by omega
        have HZ := hidIt hz
        clear hz
        obtain ⟨u, hu⟩ : ∃ u, val D = u := ⟨_, rfl⟩
        rw [hu] at hdec
        have HDEC := hidIt hdec
        clear hdec hu
        go_wp2_with fail
        refine (utoa9 top (by omega) w1).mono ?_
        rintro e w3 ⟨E, rfl, hE, hb3⟩
        have HE := hidIt hE
        have Hb3 : Hid (Below w.heap.size w w3) := hidIt (Hb1.out.trans (hb3.mono Hb1.out.size))
        have HC3 : Hid (∀ t, t < n → w3.cell? ⟨w.heap.size, t, none⟩ = some (.int .u8 ((l.getD t 0).toNat : Int))) := hidIt (fun t ht' => cell_later hb3 (HC1.out t ht'))
        clear hE hb3
        go_wp2_with fail
        refine (am10 (some ⟨w.heap.size, i, none⟩) (Q - i) (n - i) D E w3 HDL.out (by omega) (by have := HE.out.len (by omega); omega) (by omega) (sub_src HDL.out HDG.out hQn' HC3.out)).mono ?_
        rintro e w4 ⟨rfl, hb4⟩
        have Hb4 : Hid (Below w.heap.size w w4) := hidIt (Hb3.out.trans (hb4.mono Hb3.out.size))
        have HC4 : Hid (∀ t, t < n → w4.cell? ⟨w.heap.size, t, none⟩ = some (.int .u8 ((l.getD t 0).toNat : Int))) := hidIt (fun t ht' => cell_later hb4 (HC3.out t ht'))
        have hat := atMost_val HDEC.out HE.out
        clear hb4
        by_cases hle : u ≤ top
        · rw [decide_eq_true hle] at hat
          obtain ⟨hv, hj⟩ := yes_bound HRES.out ht (u := u) (by rw [HD.out]; exact HDEC.out) (by rw [HSG.out]; exact hle)
          rw [HSG.out] at hv
          rw [HQ.out] at hj
          obtain rfl : v = (u : Int) := hv
          subst hj
          have hstr := str_sub (w := w4) (g := w.heap.size) (s := i) (c := n - i) HDL.out (fun t ht' => by rw [HC4.out (i + t) (by omega), HDG.out t ht'])
          have hcell4 := HC4.out i (by omega)
          rw [HC0.out] at hcell4
          go_wp2_with fail
          refine (itoa_pos u (by omega) w4).mono ?_
          rintro e w5 ⟨E2, rfl, hE2, hb5⟩
          obtain rfl : D = E2 := HDEC.out.unique hE2
          have Hb5 : Hid (Below w.heap.size w w5) := hidIt (Hb4.out.trans (hb5.mono Hb4.out.size))
          clear hE2 hb5
          go_wp2_with fail
          go_ret
          exact ⟨rfl, Hb5.out⟩
        · rw [decide_eq_false hle] at hat
          obtain ⟨rfl, rfl⟩ := no_bound HRES.out ht (u := u) (by rw [HD.out]; exact HDEC.out) (by rw [HSG.out]; show top < u; omega)
          go_wp2_with fail
          go_ret
          exact ⟨rfl, Hb4.out⟩

set_option maxHeartbeats 6400000 in
theorem ex_neg_stop (x : Addr) (n cap : Nat) (l : List UInt8) (i Q top : Nat) (w : World) (hn : n ≤ 1048576) (hl : l.length = n) (hc : ∀ t, t < n → w.cell? (x.add t) = some (.int .u8 ((l.getD t 0).toNat : Int)))
    (ht : top ≤ 9223372036854775807) (hi : i < n) (hsg : isNeg (l.drop i) = true) (hQ : fence l i = Q) (hQn : Q < n) (hQd : isDig (l.getD Q 0) = false) :
    Calls Try.prog 3 #[.slice (some x) n cap, .int .i64 (i : Int), .int .u64 (top : Int)] w fun e w' => e = .returned (.bool true) ∧ Below w.heap.size w w' := by
  obtain ⟨c0, hc0⟩ : ∃ c : Nat, (l.getD (i + 1) 0).toNat = c := ⟨_, rfl⟩
  have hs : beg l i = (i + 1) := by unfold beg; rw [skip_neg hsg]
  have d1 : decide ((i : Int) < 0) = false := by simp
  have d2 : decide ((9223372036854775807 : Int) < (top : Int)) = false := by simp; omega
  have d3 : decide ((i : Int) < (n : Int)) = true := by simp; omega
  have hci : (l.getD i 0).toNat = 45 := by
    have := of_decide_eq_true hsg
    rwa [getD_drop, Nat.add_zero] at this
  have hiQ : (i + 1) ≤ Q := by rw [← hQ]; unfold fence; omega
  have hQn' : Q ≤ n := by omega
  have HF : Hid (∀ k, (i + 1) ≤ k → k < Q → isDig (l.getD k 0) = true) := hidIt (fun k h1 h2 => fence_dig (l := l) (i := i) k (by omega) (by omega))
  obtain ⟨v, j, hres⟩ : ∃ v j, res (l.drop i) i (top : Int) = (v, j) := ⟨_, _, rfl⟩
  obtain ⟨D, hD⟩ : ∃ D, run (l.drop i) = D := ⟨_, rfl⟩
  have hDl : D.length = Q - (i + 1) := by rw [← hD, ← hQ]; unfold fence; omega
  have hDg : ∀ t, t < Q - (i + 1) → D.getD t 0 = l.getD ((i + 1) + t) 0 := fun t h => by rw [← hD, (run_get t (by rw [hD, hDl]; exact h)).1, hs]
  have hD0 : 0 < Q - (i + 1) → (D.getD 0 0).toNat = c0 := fun h => by rw [hDg 0 h, Nat.add_zero]; exact hc0
  have HRES := hidIt hres
  have HC := hidIt hc
  have HL := hidIt hl
  have HSG := hidIt hsg
  have HQ := hidIt hQ
  have HD := hidIt hD
  have HDL := hidIt hDl
  have HDG := hidIt hDg
  have HD0 := hidIt hD0
  have HC0 := hidIt hc0
  have HQD := hidIt hQd
  have HCI := hidIt hci
  clear hc hl hres hsg hs hQ hD hDl hDg hD0 hc0 hQd hci
  go_enter Try.func3, Try.ntmps3
  go_wp2_with (first | (go_at_call 5; refine (zz5_yes _ _ _ _ _ _ hn).mono ?_; rintro e w' ⟨rfl, rfl⟩))
  refine (copy6_some x n cap l w hn HL.out HC.out).mono ?_
  rintro e w1 ⟨rfl, hc1, hb1⟩
  have HC1 := hidIt hc1
  have Hb1 := hidIt hb1
  have hcell : w1.cell? ⟨w.heap.size, i, none⟩ = some (.int .u8 45) := by rw [hc1 i hi, HCI.out]; rfl
  clear hc1 hb1
  go_wp2_with fail
  refine (int7_at (some ⟨w.heap.size, 0, none⟩) n n l i top w1 hn HL.out (src_of HL.out HC1.out) v j HRES.out).mono ?_
  rintro e w2 ⟨rfl, rfl⟩
  go_wp2_with fail
  go_loop [11] (fun q => ∃ k : Nat, (i + 1) ≤ k ∧ k ≤ Q ∧ q = .int .i64 (k : Int)) (fun q => Q - (intOf q).toNat)
  case atStart => exact ⟨(i + 1), Nat.le_refl _, hiQ, by go_num⟩
  case round =>
    obtain ⟨k, hk1, hk2, rfl⟩ := hrel
    by_cases hlt : k < Q
    · obtain ⟨c, hcc⟩ : ∃ c : Nat, (l.getD k 0).toNat = c := ⟨_, rfl⟩
      have hck : w1.cell? ⟨w.heap.size, k, none⟩ = some (.int .u8 (c : Int)) := by rw [HC1.out k (by omega), hcc]
      have d5 : decide ((k : Int) < (n : Int)) = true := by simp; omega
      have hg := isDig_cases (HF.out k hk1 hlt)
      rw [hcc] at hg
      clear hcc
      go_wp2_with (go_at_call 8; refine (dig_yes c hg.1 hg.2 _).mono ?_; rintro e w' ⟨rfl, rfl⟩)
      go_round
      case rel => exact ⟨k + 1, by omega, by omega, by go_num⟩
      case measure => simp [intOf]; omega
    · obtain rfl : Q = k := by omega
      obtain ⟨c, hcc⟩ : ∃ c : Nat, (l.getD Q 0).toNat = c := ⟨_, rfl⟩
      have hck : w1.cell? ⟨w.heap.size, Q, none⟩ = some (.int .u8 (c : Int)) := by rw [HC1.out Q (by omega), hcc]
      have d5 : decide ((Q : Int) < (n : Int)) = true := by simp; omega
      have HG : Hid (¬ (48 ≤ c ∧ c ≤ 57)) := hidIt (fun hh => by
        have h1 := HQD.out
        rw [isDig_true (by rw [hcc]; exact hh)] at h1
        cases h1)
      clear hcc
      rcases (show Q = (i + 1) ∨ ((i + 1) + 2 ≤ Q ∧ c0 = 48) ∨ Q = (i + 1) + 1 ∨ ((i + 1) + 2 ≤ Q ∧ c0 ≠ 48) from by omega) with h0 | ⟨h0, hz⟩ | h0 | ⟨h0, hz⟩
      · -- no digit
        obtain ⟨rfl, rfl⟩ := no_first HRES.out (by rw [HD.out, HDL.out]; omega)
        have t1 : decide ((1 : Int) ≤ (Q : Int) - ((i : Int) + 1)) = false := by simp; omega
        have HH := hidIt h0
        clear h0
        go_wp2_with (go_at_call 8; refine (dig_no c HG.out _).mono ?_; rintro e w' ⟨rfl, rfl⟩)
        go_ret
        exact ⟨rfl, Hb1.out⟩
      · -- a leading zero
        obtain ⟨rfl, rfl⟩ := no_first HRES.out (by rw [HD.out, HDL.out, HD0.out (by omega)]; omega)
        have t1 : decide ((1 : Int) ≤ (Q : Int) - ((i : Int) + 1)) = true := by simp; omega
        have t2 : ((Q : Int) - ((i : Int) + 1) == 1) = false := by simp; omega
        have t3 : ((c0 : Int) != 48) = false := by simp; omega
        have hcs : w1.cell? ⟨w.heap.size, (i + 1), none⟩ = some (.int .u8 (c0 : Int)) := by rw [HC1.out (i + 1) (by omega), HC0.out]
        have HZ := hidIt hz
        clear hz
        go_wp2_with (go_at_call 8; refine (dig_no c HG.out _).mono ?_; rintro e w' ⟨rfl, rfl⟩)
        go_ret
        exact ⟨rfl, Hb1.out⟩
      · -- one digit
        have hdec : IsDec D (val D) := by
          have := run_dec (l := l) (i := i) (by rw [HD.out, HDL.out]; omega)
          rwa [HD.out] at this
        have t1 : decide ((1 : Int) ≤ (Q : Int) - ((i : Int) + 1)) = true := by simp; omega
        have t2 : ((Q : Int) - ((i : Int) + 1) == 1) = true := by simp; omega
        have hcs : w1.cell? ⟨w.heap.size, (i + 1), none⟩ = some (.int .u8 (c0 : Int)) := by rw [HC1.out (i + 1) (by omega), HC0.out]
        have hm1 : (i + 1) + 1 ≤ Q := by omega
        have HH := hidIt h0
        clear h0
        obtain ⟨u, hu⟩ : ∃ u, val D = u := ⟨_, rfl⟩
        rw [hu] at hdec
        have HDEC := hidIt hdec
        have huc : u = c0 - 48 := by rw [← hu, val_one (by rw [HDL.out]; have := HH.out; omega), HD0.out (by omega)]
        have hc48 : 48 ≤ c0 := by
          have := isDig_cases (HF.out (i + 1) (Nat.le_refl _) (by omega))
          rw [HC0.out] at this
          exact this.1
        have HUC := hidIt huc
        clear huc
        clear hdec hu
        go_wp2_with (go_at_call 8; refine (dig_no c HG.out _).mono ?_; rintro e w' ⟨rfl, rfl⟩)
        refine (utoa9 top (by omega) w1).mono ?_
        rintro e w2 ⟨E0, rfl, _, hb2⟩
        have Hb2 : Hid (Below w.heap.size w w2) := hidIt (Hb1.out.trans (hb2.mono Hb1.out.size))
        have HC2 : Hid (∀ t, t < n → w2.cell? ⟨w.heap.size, t, none⟩ = some (.int .u8 ((l.getD t 0).toNat : Int))) := hidIt (fun t ht' => cell_later hb2 (HC1.out t ht'))
        clear hb2
        go_wp2_with fail
        refine (utoa9_at ((top : Int) + 1) (top + 1) (by omega) (by omega) w2).mono ?_
        rintro e w3 ⟨E, rfl, hE, hb3⟩
        have HE := hidIt hE
        have Hb3 : Hid (Below w.heap.size w w3) := hidIt (Hb2.out.trans (hb3.mono Hb2.out.size))
        have HC3 : Hid (∀ t, t < n → w3.cell? ⟨w.heap.size, t, none⟩ = some (.int .u8 ((l.getD t 0).toNat : Int))) := hidIt (fun t ht' => cell_later hb3 (HC2.out t ht'))
        clear hE hb3
        go_wp2_with fail
        refine (am10 (some ⟨w.heap.size, (i + 1), none⟩) (Q - (i + 1)) (n - (i + 1)) D E w3 HDL.out (by omega) (by have := HE.out.len (by omega); omega) (by omega) (sub_src HDL.out HDG.out hQn' HC3.out)).mono ?_
        rintro e w4 ⟨rfl, hb4⟩
        have Hb4 : Hid (Below w.heap.size w w4) := hidIt (Hb3.out.trans (hb4.mono Hb3.out.size))
        have HC4 : Hid (∀ t, t < n → w4.cell? ⟨w.heap.size, t, none⟩ = some (.int .u8 ((l.getD t 0).toNat : Int))) := hidIt (fun t ht' => cell_later hb4 (HC3.out t ht'))
        have hat := atMost_val HDEC.out HE.out
        clear hb4
        by_cases hle : u ≤ top + 1
        · rw [decide_eq_true hle] at hat
          obtain ⟨hv, hj⟩ := yes_bound HRES.out ht (u := u) (by rw [HD.out]; exact HDEC.out) (by rw [HSG.out]; exact hle)
          rw [HSG.out] at hv
          rw [HQ.out] at hj
          obtain rfl : v = -(u : Int) := hv
          subst hj
          have hstr := str_sub (w := w4) (g := w.heap.size) (s := (i + 1)) (c := n - (i + 1)) HDL.out (fun t ht' => by rw [HC4.out ((i + 1) + t) (by omega), HDG.out t ht'])
          have hcell4 := HC4.out (i + 1) (by omega)
          rw [HC0.out] at hcell4
          by_cases hz : c0 = 48
          · have t3 : ((c0 : Int) == 48) = true := by simp; omega
            obtain rfl : u = 0 := by have := HUC.out; omega
            clear hz
            go_wp2_with fail
            go_ret
            exact ⟨rfl, Hb4.out⟩
          · have t3 : ((c0 : Int) == 48) = false := by simp; omega
            have hu1 : 1 ≤ u := by have := HUC.out; omega
            clear hz
            have hadd := minus_add D (by rw [HDL.out]; omega) w4
            go_wp2_with fail
            refine (itoa_neg u (by omega) (by omega) w4).mono ?_
            rintro e w5 ⟨E2, rfl, hE2, hb5⟩
            obtain rfl : D = E2 := HDEC.out.unique hE2
            have Hb5 : Hid (Below w.heap.size w w5) := hidIt (Hb4.out.trans (hb5.mono Hb4.out.size))
            clear hE2 hb5
            go_wp2_with fail
            go_ret
            exact ⟨rfl, Hb5.out⟩
        · rw [decide_eq_false hle] at hat
          obtain ⟨rfl, rfl⟩ := no_bound HRES.out ht (u := u) (by rw [HD.out]; exact HDEC.out) (by rw [HSG.out]; show top + 1 < u; omega)
          go_wp2_with fail
          go_ret
          exact ⟨rfl, Hb4.out⟩
      · -- more digits
        have hdec : IsDec D (val D) := by
          have := run_dec (l := l) (i := i) (by rw [HD.out, HDL.out, HD0.out (by omega)]; omega)
          rwa [HD.out] at this
        have t1 : decide ((1 : Int) ≤ (Q : Int) - ((i : Int) + 1)) = true := by simp; omega
        have t2 : ((Q : Int) - ((i : Int) + 1) == 1) = false := by simp; omega
        have t3 : ((c0 : Int) != 48) = true := by simp; omega
        have hcs : w1.cell? ⟨w.heap.size, (i + 1), none⟩ = some (.int .u8 (c0 : Int)) := by rw [HC1.out (i + 1) (by omega), HC0.out]
        have hm1 : (i + 1) + 1 ≤ Q := by omega
        have HZ := hidIt hz
        clear hz
        obtain ⟨u, hu⟩ : ∃ u, val D = u := ⟨_, rfl⟩
        rw [hu] at hdec
        have HDEC := hidIt hdec
        have hu1 : 1 ≤ u := by
          have h1 := hdec.low (by rw [HDL.out]; omega)
          have h2 : 10 ^ 0 ≤ 10 ^ (D.length - 1) := pow_mono (by omega)
          omega
        clear hdec hu
        go_wp2_with (go_at_call 8; refine (dig_no c HG.out _).mono ?_; rintro e w' ⟨rfl, rfl⟩)
        refine (utoa9 top (by omega) w1).mono ?_
        rintro e w2 ⟨E0, rfl, _, hb2⟩
        have Hb2 : Hid (Below w.heap.size w w2) := hidIt (Hb1.out.trans (hb2.mono Hb1.out.size))
        have HC2 : Hid (∀ t, t < n → w2.cell? ⟨w.heap.size, t, none⟩ = some (.int .u8 ((l.getD t 0).toNat : Int))) := hidIt (fun t ht' => cell_later hb2 (HC1.out t ht'))
        clear hb2
        go_wp2_with fail
        refine (utoa9_at ((top : Int) + 1) (top + 1) (by omega) (by omega) w2).mono ?_
        rintro e w3 ⟨E, rfl, hE, hb3⟩
        have HE := hidIt hE
        have Hb3 : Hid (Below w.heap.size w w3) := hidIt (Hb2.out.trans (hb3.mono Hb2.out.size))
        have HC3 : Hid (∀ t, t < n → w3.cell? ⟨w.heap.size, t, none⟩ = some (.int .u8 ((l.getD t 0).toNat : Int))) := hidIt (fun t ht' => cell_later hb3 (HC2.out t ht'))
        clear hE hb3
        go_wp2_with fail
        refine (am10 (some ⟨w.heap.size, (i + 1), none⟩) (Q - (i + 1)) (n - (i + 1)) D E w3 HDL.out (by omega) (by have := HE.out.len (by omega); omega) (by omega) (sub_src HDL.out HDG.out hQn' HC3.out)).mono ?_
        rintro e w4 ⟨rfl, hb4⟩
        have Hb4 : Hid (Below w.heap.size w w4) := hidIt (Hb3.out.trans (hb4.mono Hb3.out.size))
        have HC4 : Hid (∀ t, t < n → w4.cell? ⟨w.heap.size, t, none⟩ = some (.int .u8 ((l.getD t 0).toNat : Int))) := hidIt (fun t ht' => cell_later hb4 (HC3.out t ht'))
        have hat := atMost_val HDEC.out HE.out
        clear hb4
        by_cases hle : u ≤ top + 1
        · rw [decide_eq_true hle] at hat
          obtain ⟨hv, hj⟩ := yes_bound HRES.out ht (u := u) (by rw [HD.out]; exact HDEC.out) (by rw [HSG.out]; exact hle)
          rw [HSG.out] at hv
          rw [HQ.out] at hj
          obtain rfl : v = -(u : Int) := hv
          subst hj
          have hstr := str_sub (w := w4) (g := w.heap.size) (s := (i + 1)) (c := n - (i + 1)) HDL.out (fun t ht' => by rw [HC4.out ((i + 1) + t) (by omega), HDG.out t ht'])
          have hcell4 := HC4.out (i + 1) (by omega)
          rw [HC0.out] at hcell4
          have hadd := minus_add D (by rw [HDL.out]; omega) w4
          go_wp2_with fail
          refine (itoa_neg u (by omega) (by omega) w4).mono ?_
          rintro e w5 ⟨E2, rfl, hE2, hb5⟩
          obtain rfl : D = E2 := HDEC.out.unique hE2
          have Hb5 : Hid (Below w.heap.size w w5) := hidIt (Hb4.out.trans (hb5.mono Hb4.out.size))
          clear hE2 hb5
          go_wp2_with fail
          go_ret
          exact ⟨rfl, Hb5.out⟩
        · rw [decide_eq_false hle] at hat
          obtain ⟨rfl, rfl⟩ := no_bound HRES.out ht (u := u) (by rw [HD.out]; exact HDEC.out) (by rw [HSG.out]; show top + 1 < u; omega)
          go_wp2_with fail
          go_ret
          exact ⟨rfl, Hb4.out⟩

set_option maxHeartbeats 6400000 in
theorem ex_neg_end (x : Addr) (n cap : Nat) (l : List UInt8) (i Q top : Nat) (w : World) (hn : n ≤ 1048576) (hl : l.length = n) (hc : ∀ t, t < n → w.cell? (x.add t) = some (.int .u8 ((l.getD t 0).toNat : Int)))
    (ht : top ≤ 9223372036854775807) (hi : i < n) (hsg : isNeg (l.drop i) = true) (hQ : fence l i = Q) (hQn : Q = n) :
    Calls Try.prog 3 #[.slice (some x) n cap, .int .i64 (i : Int), .int .u64 (top : Int)] w fun e w' => e = .returned (.bool true) ∧ Below w.heap.size w w' := by
  obtain ⟨c0, hc0⟩ : ∃ c : Nat, (l.getD (i + 1) 0).toNat = c := ⟨_, rfl⟩
  have hs : beg l i = (i + 1) := by unfold beg; rw [skip_neg hsg]
  have d1 : decide ((i : Int) < 0) = false := by simp
  have d2 : decide ((9223372036854775807 : Int) < (top : Int)) = false := by simp; omega
  have d3 : decide ((i : Int) < (n : Int)) = true := by simp; omega
  have hci : (l.getD i 0).toNat = 45 := by
    have := of_decide_eq_true hsg
    rwa [getD_drop, Nat.add_zero] at this
  have hiQ : (i + 1) ≤ Q := by rw [← hQ]; unfold fence; omega
  have hQn' : Q ≤ n := by omega
  have HF : Hid (∀ k, (i + 1) ≤ k → k < Q → isDig (l.getD k 0) = true) := hidIt (fun k h1 h2 => fence_dig (l := l) (i := i) k (by omega) (by omega))
  obtain ⟨v, j, hres⟩ : ∃ v j, res (l.drop i) i (top : Int) = (v, j) := ⟨_, _, rfl⟩
  obtain ⟨D, hD⟩ : ∃ D, run (l.drop i) = D := ⟨_, rfl⟩
  have hDl : D.length = Q - (i + 1) := by rw [← hD, ← hQ]; unfold fence; omega
  have hDg : ∀ t, t < Q - (i + 1) → D.getD t 0 = l.getD ((i + 1) + t) 0 := fun t h => by rw [← hD, (run_get t (by rw [hD, hDl]; exact h)).1, hs]
  have hD0 : 0 < Q - (i + 1) → (D.getD 0 0).toNat = c0 := fun h => by rw [hDg 0 h, Nat.add_zero]; exact hc0
  have HRES := hidIt hres
  have HC := hidIt hc
  have HL := hidIt hl
  have HSG := hidIt hsg
  have HQ := hidIt hQ
  have HD := hidIt hD
  have HDL := hidIt hDl
  have HDG := hidIt hDg
  have HD0 := hidIt hD0
  have HC0 := hidIt hc0
  have hQge : n ≤ Q := by omega
  have HCI := hidIt hci
  clear hc hl hres hsg hs hQ hD hDl hDg hD0 hc0 hQn hci
  go_enter Try.func3, Try.ntmps3
  go_wp2_with (first | (go_at_call 5; refine (zz5_yes _ _ _ _ _ _ hn).mono ?_; rintro e w' ⟨rfl, rfl⟩))
  refine (copy6_some x n cap l w hn HL.out HC.out).mono ?_
  rintro e w1 ⟨rfl, hc1, hb1⟩
  have HC1 := hidIt hc1
  have Hb1 := hidIt hb1
  have hcell : w1.cell? ⟨w.heap.size, i, none⟩ = some (.int .u8 45) := by rw [hc1 i hi, HCI.out]; rfl
  clear hc1 hb1
  go_wp2_with fail
  refine (int7_at (some ⟨w.heap.size, 0, none⟩) n n l i top w1 hn HL.out (src_of HL.out HC1.out) v j HRES.out).mono ?_
  rintro e w2 ⟨rfl, rfl⟩
  go_wp2_with fail
  go_loop [11] (fun q => ∃ k : Nat, (i + 1) ≤ k ∧ k ≤ Q ∧ q = .int .i64 (k : Int)) (fun q => Q - (intOf q).toNat)
  case atStart => exact ⟨(i + 1), Nat.le_refl _, hiQ, by go_num⟩
  case round =>
    obtain ⟨k, hk1, hk2, rfl⟩ := hrel
    by_cases hlt : k < Q
    · obtain ⟨c, hcc⟩ : ∃ c : Nat, (l.getD k 0).toNat = c := ⟨_, rfl⟩
      have hck : w1.cell? ⟨w.heap.size, k, none⟩ = some (.int .u8 (c : Int)) := by rw [HC1.out k (by omega), hcc]
      have d5 : decide ((k : Int) < (n : Int)) = true := by simp; omega
      have hg := isDig_cases (HF.out k hk1 hlt)
      rw [hcc] at hg
      clear hcc
      go_wp2_with (go_at_call 8; refine (dig_yes c hg.1 hg.2 _).mono ?_; rintro e w' ⟨rfl, rfl⟩)
      go_round
      case rel => exact ⟨k + 1, by omega, by omega, by go_num⟩
      case measure => simp [intOf]; omega
    · obtain rfl : Q = k := by omega
      have d5 : decide ((Q : Int) < (n : Int)) = false := by simp; omega
      rcases (show Q = (i + 1) ∨ ((i + 1) + 2 ≤ Q ∧ c0 = 48) ∨ Q = (i + 1) + 1 ∨ ((i + 1) + 2 ≤ Q ∧ c0 ≠ 48) from by omega) with h0 | ⟨h0, hz⟩ | h0 | ⟨h0, hz⟩
      · -- no digit
        obtain ⟨rfl, rfl⟩ := no_first HRES.out (by rw [HD.out, HDL.out]; omega)
        have t1 : decide ((1 : Int) ≤ (Q : Int) - ((i : Int) + 1)) = false := by simp; omega
        have HH := hidIt h0
        clear h0
        go_wp2_with fail
        go_ret
        exact ⟨rfl, Hb1.out⟩
      · -- a leading zero
        obtain ⟨rfl, rfl⟩ := no_first HRES.out (by rw [HD.out, HDL.out, HD0.out (by omega)]; omega)
        have t1 : decide ((1 : Int) ≤ (Q : Int) - ((i : Int) + 1)) = true := by simp; omega
        have t2 : ((Q : Int) - ((i : Int) + 1) == 1) = false := by simp; omega
        have t3 : ((c0 : Int) != 48) = false := by simp; omega
        have hcs : w1.cell? ⟨w.heap.size, (i + 1), none⟩ = some (.int .u8 (c0 : Int)) := by rw [HC1.out (i + 1) (by omega), HC0.out]
        have HZ := hidIt hz
        clear hz
        go_wp2_with fail
        go_ret
        exact ⟨rfl, Hb1.out⟩
      · -- one digit
        have hdec : IsDec D (val D) := by
          have := run_dec (l := l) (i := i) (by rw [HD.out, HDL.out]; omega)
          rwa [HD.out] at this
        have t1 : decide ((1 : Int) ≤ (Q : Int) - ((i : Int) + 1)) = true := by simp; omega
        have t2 : ((Q : Int) - ((i : Int) + 1) == 1) = true := by simp; omega
        have hcs : w1.cell? ⟨w.heap.size, (i + 1), none⟩ = some (.int .u8 (c0 : Int)) := by rw [HC1.out (i + 1) (by omega), HC0.out]
        have hm1 : (i + 1) + 1 ≤ Q := by omega
        have HH := hidIt h0
        clear h0
        obtain ⟨u, hu⟩ : ∃ u, val D = u := ⟨_, rfl⟩
        rw [hu] at hdec
        have HDEC := hidIt hdec
        have huc : u = c0 - 48 := by rw [← hu, val_one (by rw [HDL.out]; have := HH.out; omega), HD0.out (by omega)]
        have hc48 : 48 ≤ c0 := by
          have := isDig_cases (HF.out (i + 1) (Nat.le_refl _) (by omega))
          rw [HC0.out] at this
          exact this.1
        have HUC := hidIt huc
        clear huc
        clear hdec hu
        go_wp2_with fail
        refine (utoa9 top (by omega) w1).mono ?_
        rintro e w2 ⟨E0, rfl, _, hb2⟩
        have Hb2 : Hid (Below w.heap.size w w2) := hidIt (Hb1.out.trans (hb2.mono Hb1.out.size))
        have HC2 : Hid (∀ t, t < n → w2.cell? ⟨w.heap.size, t, none⟩ = some (.int .u8 ((l.getD t 0).toNat : Int))) := hidIt (fun t ht' => cell_later hb2 (HC1.out t ht'))
        clear hb2
        go_wp2_with fail
        refine (utoa9_at ((top : Int) + 1) (top + 1) (by omega) (by omega) w2).mono ?_
        rintro e w3 ⟨E, rfl, hE, hb3⟩
        have HE := hidIt hE
        have Hb3 : Hid (Below w.heap.size w w3) := hidIt (Hb2.out.trans (hb3.mono Hb2.out.size))
        have HC3 : Hid (∀ t, t < n → w3.cell? ⟨w.heap.size, t, none⟩ = some (.int .u8 ((l.getD t 0).toNat : Int))) := hidIt (fun t ht' => cell_later hb3 (HC2.out t ht'))
        clear hE hb3
        go_wp2_with fail
        refine (am10 (some ⟨w.heap.size, (i + 1), none⟩) (Q - (i + 1)) (n - (i + 1)) D E w3 HDL.out (by omega) (by have := HE.out.len (by omega); omega) (by omega) (sub_src HDL.out HDG.out hQn' HC3.out)).mono ?_
        rintro e w4 ⟨rfl, hb4⟩
        have Hb4 : Hid (Below w.heap.size w w4) := hidIt (Hb3.out.trans (hb4.mono Hb3.out.size))
        have HC4 : Hid (∀ t, t < n → w4.cell? ⟨w.heap.size, t, none⟩ = some (.int .u8 ((l.getD t 0).toNat : Int))) := hidIt (fun t ht' => cell_later hb4 (HC3.out t ht'))
        have hat := atMost_val HDEC.out HE.out
        clear hb4
        by_cases hle : u ≤ top + 1
        · rw [decide_eq_true hle] at hat
          obtain ⟨hv, hj⟩ := yes_bound HRES.out ht (u := u) (by rw [HD.out]; exact HDEC.out) (by rw [HSG.out]; exact hle)
          rw [HSG.out] at hv
          rw [HQ.out] at hj
          obtain rfl : v = -(u : Int) := hv
          subst hj
          have hstr := str_sub (w := w4) (g := w.heap.size) (s := (i + 1)) (c := n - (i + 1)) HDL.out (fun t ht' => by rw [HC4.out ((i + 1) + t) (by omega), HDG.out t ht'])
          have hcell4 := HC4.out (i + 1) (by omega)
          rw [HC0.out] at hcell4
          by_cases hz : c0 = 48
          · have t3 : ((c0 : Int) == 48) = true := by simp; omega
            obtain rfl : u = 0 := by have := HUC.out; omega
            clear hz
            go_wp2_with fail
            go_ret
            exact ⟨rfl, Hb4.out⟩
          · have t3 : ((c0 : Int) == 48) = false := by simp; omega
            have hu1 : 1 ≤ u := by have := HUC.out; omega
            clear hz
            have hadd := minus_add D (by rw [HDL.out]; omega) w4
            go_wp2_with fail
            refine (itoa_neg u (by omega) (by omega) w4).mono ?_
            rintro e w5 ⟨E2, rfl, hE2, hb5⟩
            obtain rfl : D = E2 := HDEC.out.unique hE2
            have Hb5 : Hid (Below w.heap.size w w5) := hidIt (Hb4.out.trans (hb5.mono Hb4.out.size))
            clear hE2 hb5
            go_wp2_with fail
            go_ret
            exact ⟨rfl, Hb5.out⟩
        · rw [decide_eq_false hle] at hat
          obtain ⟨rfl, rfl⟩ := no_bound HRES.out ht (u := u) (by rw [HD.out]; exact HDEC.out) (by rw [HSG.out]; show top + 1 < u; omega)
          go_wp2_with fail
          go_ret
          exact ⟨rfl, Hb4.out⟩
      · -- more digits
        have hdec : IsDec D (val D) := by
          have := run_dec (l := l) (i := i) (by rw [HD.out, HDL.out, HD0.out (by omega)]; omega)
          rwa [HD.out] at this
        have t1 : decide ((1 : Int) ≤ (Q : Int) - ((i : Int) + 1)) = true := by simp; omega
        have t2 : ((Q : Int) - ((i : Int) + 1) == 1) = false := by simp; omega
        have t3 : ((c0 : Int) != 48) = true := by simp; omega
        have hcs : w1.cell? ⟨w.heap.size, (i + 1), none⟩ = some (.int .u8 (c0 : Int)) := by rw [HC1.out (i + 1) (by omega), HC0.out]
        have hm1 : (i + 1) + 1 ≤ Q := by omega
        have HZ := hidIt hz
        clear hz
        obtain ⟨u, hu⟩ : ∃ u, val D = u := ⟨_, rfl⟩
        rw [hu] at hdec
        have HDEC := hidIt hdec
        have hu1 : 1 ≤ u := by
          have h1 := hdec.low (by rw [HDL.out]; omega)
          have h2 : 10 ^ 0 ≤ 10 ^ (D.length - 1) := pow_mono (by omega)
          omega
        clear hdec hu
        go_wp2_with fail
        refine (utoa9 top (by omega) w1).mono ?_
        rintro e w2 ⟨E0, rfl, _, hb2⟩
        have Hb2 : Hid (Below w.heap.size w w2) := hidIt (Hb1.out.trans (hb2.mono Hb1.out.size))
        have HC2 : Hid (∀ t, t < n → w2.cell? ⟨w.heap.size, t, none⟩ = some (.int .u8 ((l.getD t 0).toNat : Int))) := hidIt (fun t ht' => cell_later hb2 (HC1.out t ht'))
        clear hb2
        go_wp2_with fail
        refine (utoa9_at ((top : Int) + 1) (top + 1) (by omega) (by omega) w2).mono ?_
        rintro e w3 ⟨E, rfl, hE, hb3⟩
        have HE := hidIt hE
        have Hb3 : Hid (Below w.heap.size w w3) := hidIt (Hb2.out.trans (hb3.mono Hb2.out.size))
        have HC3 : Hid (∀ t, t < n → w3.cell? ⟨w.heap.size, t, none⟩ = some (.int .u8 ((l.getD t 0).toNat : Int))) := hidIt (fun t ht' => cell_later hb3 (HC2.out t ht'))
        clear hE hb3
        go_wp2_with fail
        refine (am10 (some ⟨w.heap.size, (i + 1), none⟩) (Q - (i + 1)) (n - (i + 1)) D E w3 HDL.out (by omega) (by have := HE.out.len (by omega); omega) (by omega) (sub_src HDL.out HDG.out hQn' HC3.out)).mono ?_
        rintro e w4 ⟨rfl, hb4⟩
        have Hb4 : Hid (Below w.heap.size w w4) := hidIt (Hb3.out.trans (hb4.mono Hb3.out.size))
        have HC4 : Hid (∀ t, t < n → w4.cell? ⟨w.heap.size, t, none⟩ = some (.int .u8 ((l.getD t 0).toNat : Int))) := hidIt (fun t ht' => cell_later hb4 (HC3.out t ht'))
        have hat := atMost_val HDEC.out HE.out
        clear hb4
        by_cases hle : u ≤ top + 1
        · rw [decide_eq_true hle] at hat
          obtain ⟨hv, hj⟩ := yes_bound HRES.out ht (u := u) (by rw [HD.out]; exact HDEC.out) (by rw [HSG.out]; exact hle)
          rw [HSG.out] at hv
          rw [HQ.out] at hj
          obtain rfl : v = -(u : Int) := hv
          subst hj
          have hstr := str_sub (w := w4) (g := w.heap.size) (s := (i + 1)) (c := n - (i + 1)) HDL.out (fun t ht' => by rw [HC4.out ((i + 1) + t) (by omega), HDG.out t ht'])
          have hcell4 := HC4.out (i + 1) (by omega)
          rw [HC0.out] at hcell4
          have hadd := minus_add D (by rw [HDL.out]; omega) w4
          go_wp2_with fail
          refine (itoa_neg u (by omega) (by omega) w4).mono ?_
          rintro e w5 ⟨E2, rfl, hE2, hb5⟩
          obtain rfl : D = E2 := HDEC.out.unique hE2
          have Hb5 : Hid (Below w.heap.size w w5) := hidIt (Hb4.out.trans (hb5.mono Hb4.out.size))
          clear hE2 hb5
          go_wp2_with fail
          go_ret
          exact ⟨rfl, Hb5.out⟩
        · rw [decide_eq_false hle] at hat
          obtain ⟨rfl, rfl⟩ := no_bound HRES.out ht (u := u) (by rw [HD.out]; exact HDEC.out) (by rw [HSG.out]; show top + 1 < u; omega)
          go_wp2_with fail
          go_ret
          exact ⟨rfl, Hb4.out⟩

end Go.Proofs.Qxb6604023a
