/- zzDigitsAtMost (function 10). -/
import Derived.Test.Qxb6604023aUtoa
namespace Go.Proofs.Qxb6604023a
open Go.ChangeShapes Go.WideShapes Go.ChangeAt Go.RowKit

theorem ret_bool {a b : Bool} (h : a = b) : Ending.returned (.bool a) = .returned (.bool b) := by rw [h]

theorem am_lens (ao : Option Addr) (n cap : Nat) (D E : List UInt8) (w : World) (hl : D.length = n) (h : D.length ≠ E.length) (_hn : n ≤ 1048576) (_hE : E.length ≤ 1048576) :
    Calls Try.prog 10 #[.slice ao n cap, .string ⟨E.toArray⟩] w fun e w' => e = .returned (.bool (atMost D E)) ∧ w = w' := by
  have hs : (⟨E.toArray⟩ : ByteArray).size = E.length := by simp [ByteArray.size]
  have hne : ((n : Int) != (E.length : Int)) = true := by simp; omega
  have HA : Hid (atMost D E = decide (n < E.length)) := hidIt (by unfold atMost; rw [if_neg h, hl])
  clear h hl
  go_enter Try.func10, Try.ntmps10
  go_wp2
  go_ret
  exact ⟨ret_bool HA.out.symm, rfl⟩

theorem lexLe_at : ∀ (k : Nat) (D E : List UInt8), D.length = E.length → k < D.length → (∀ t, t < k → (D.getD t 0).toNat = (E.getD t 0).toNat) → (D.getD k 0).toNat ≠ (E.getD k 0).toNat → lexLe D E = decide ((D.getD k 0).toNat < (E.getD k 0).toNat)
  | _, [], _, _, h, _, _ => by simp at h
  | _, _ :: _, [], h, _, _, _ => by simp at h
  | 0, b :: D, c :: E, _, _, _, h => by
    unfold lexLe
    rw [if_neg (by simpa using h)]
    simp
  | k + 1, b :: D, c :: E, hl, hk, ha, h => by
    unfold lexLe
    have h0 := ha 0 (by omega)
    rw [if_pos (by simpa using h0), lexLe_at k D E (by simpa using hl) (by simpa using hk) (fun t ht => by simpa using ha (t + 1) (by omega)) (by simpa using h)]
    simp
theorem lexLe_all : ∀ (D E : List UInt8), D.length = E.length → (∀ t, t < D.length → (D.getD t 0).toNat = (E.getD t 0).toNat) → lexLe D E = true
  | [], _, _, _ => by simp [lexLe]
  | _ :: _, [], h, _ => by simp at h
  | b :: D, c :: E, hl, ha => by
    unfold lexLe
    have h0 := ha 0 (by simp)
    rw [if_pos (by simpa using h0), lexLe_all D E (by simpa using hl) (fun t ht => by simpa using ha (t + 1) (by simpa using ht))]

set_option maxHeartbeats 1600000 in
theorem am_same (b off n cap : Nat) (D E : List UInt8) (S : ByteArray) (w : World) (hl : D.length = n) (hE : E.length = n) (hn : n ≤ 1048576) (hS : S.size = n) (hSE : ∀ k (h : k < S.size), S[k] = E.getD k 0)
    (hc : ∀ t, t < n → w.cell? ⟨b, off + t, none⟩ = some (.int .u8 ((D.getD t 0).toNat : Int))) :
    Calls Try.prog 10 #[.slice (some ⟨b, off, none⟩) n cap, .string S] w fun e w' => e = .returned (.bool (atMost D E)) ∧ Below w.heap.size w w' := by
  have hne : ((n : Int) != (n : Int)) = false := by simp
  have HA : Hid (atMost D E = lexLe D E) := hidIt (by unfold atMost; rw [if_pos (by omega)])
  have HC := hidIt hc
  have HL := hidIt hl
  have HE := hidIt hE
  have HSE := hidIt hSE
  clear hc hl hE hSE
  go_enter Try.func10, Try.ntmps10
  go_wp2
  go_loopw [5] (fun i wr => ∃ k : Nat, k ≤ n ∧ i = .int .i64 (k : Int) ∧ (∀ t, t < k → (D.getD t 0).toNat = (E.getD t 0).toNat) ∧ Below w.heap.size w wr)
    (fun i _ => n - (intOf i).toNat)
  case atStart => exact ⟨0, by omega, rfl, fun t h => by omega, Below.refl _ _⟩
  case round =>
    obtain ⟨k, hk, rfl, hall, hnx⟩ := hrel
    have HAL := hidIt hall
    have HN := hidIt hnx
    clear hall hnx
    by_cases hlt : k < n
    · obtain ⟨c, hcc⟩ : ∃ c : Nat, (D.getD k 0).toNat = c := ⟨_, rfl⟩
      obtain ⟨e, hee⟩ : ∃ e : Nat, (E.getD k 0).toNat = e := ⟨_, rfl⟩
      have hcell : wr.cell? ⟨b, off + k, none⟩ = some (.int .u8 (c : Int)) := by rw [cell_later HN.out (HC.out k hlt), hcc]
      have hSk : k < S.size := by omega
      have hse : (S[k]'hSk).toNat = e := by rw [HSE.out k hSk, hee]
      have HCC := hidIt hcc
      have HEE := hidIt hee
      have hki : (k : Int) < (n : Int) := by omega
      clear hcc hee
      by_cases hce : c = e
      · have hb : ((c : Int) != (e : Int)) = false := by simp; omega
        have hcel : c ≤ e := by omega
        have hceg : e ≤ c := by omega
        have HCE := hidIt hce
        clear hce
        go_wp2
        go_region
        go_wp2
        go_roundw
        case rel => exact ⟨k + 1, by omega, by go_num, fun t ht => by
          by_cases e2 : t = k
          · subst e2; rw [HCC.out, HEE.out]; exact HCE.out
          · exact HAL.out t (by omega), HN.out.drew⟩
        case measure => simp [intOf]; omega
      · have hb : ((c : Int) != (e : Int)) = true := by simp; omega
        have HT : Hid (atMost D E = decide (c < e)) := hidIt (by
          rw [HA.out, lexLe_at k D E (by rw [HL.out, HE.out]) (by rw [HL.out]; exact hlt) HAL.out (by rw [HCC.out, HEE.out]; exact hce), HCC.out, HEE.out])
        go_wp2
        go_region
        go_wp2
        go_region
        go_wp2
        go_ret
        exact ⟨ret_bool (by rw [HT.out]), HN.out.drew.drew⟩
    · have HT := hidIt (lexLe_all D E (by rw [HL.out, HE.out]) (fun t ht => HAL.out t (by have := HL.out; omega)))
      go_wp2
      go_ret
      exact ⟨ret_bool (by rw [HA.out, HT.out]), HN.out⟩

/-- zzDigitsAtMost at every pair of decimals. -/
theorem am10 (ao : Option Addr) (n cap : Nat) (D E : List UInt8) (w : World) (hl : D.length = n) (hn : n ≤ 1048576) (hEn : E.length ≤ 1048576) (hp : 0 < n) (hsrc : Src w ao D) :
    Calls Try.prog 10 #[.slice ao n cap, .string ⟨E.toArray⟩] w fun e w' => e = .returned (.bool (atMost D E)) ∧ Below w.heap.size w w' := by
  by_cases h : D.length = E.length
  · obtain ⟨b, off, rfl, hc⟩ := hsrc (by omega)
    rw [hl] at hc
    have hs : (⟨E.toArray⟩ : ByteArray).size = E.length := by simp [ByteArray.size]
    refine am_same b off n cap D E ⟨E.toArray⟩ w hl (by omega) hn (by omega) (fun k hk => ?_) hc
    have hk' : k < E.length := by omega
    show E.toArray[k]'(by simpa using hk') = _
    simp [List.getD, hk']
  · exact (am_lens ao n cap D E w hl h hn hEn).mono fun e w' ⟨he, hw⟩ => ⟨he, by subst hw; exact Below.refl _ _⟩
end Go.Proofs.Qxb6604023a
