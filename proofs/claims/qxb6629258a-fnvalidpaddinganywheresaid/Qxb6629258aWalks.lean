/-
  Seat b6629258a: the walks of the shared functions.
-/
import Derived.Test.Qxb6629258aRows
import Derived.Test.Qxb6629258aPlain
import Derived.WalkKit
import Derived.ProofKit
import Derived.WalkSpells
import Derived.Outline
namespace Go.Proofs.Qxb6629258a
open Go.ChangeShapes Go.WideShapes Go.ChangeAt Go.RowKit
open Plain

theorem ret_bool {a b : Bool} (h : a = b) : Ending.returned (.bool a) = .returned (.bool b) := by rw [h]
theorem len_data (s : ByteArray) : s.data.toList.length = s.size := by simp
theorem isEmpty_size (s : ByteArray) : s.toList.isEmpty = decide (s.size = 0) := by
  rw [ByteArray.toList_eq, Bool.eq_iff_iff, List.isEmpty_iff, ← List.length_eq_zero_iff, len_data]
  simp
theorem hide {p : Prop} (h : p) : Hid p := h
theorem unhide {p : Prop} (h : Hid p) : p := h

theorem valid_in (s : ByteArray) (h0 : 1 ≤ s.size) (h1 : s.size ≤ 128) : validB s.data.toList = allOk s.data.toList := by
  have hne : s.data.toList.isEmpty = false := by
    cases h : s.data.toList with
    | nil => exact absurd (by rw [← len_data, h]; rfl) (by omega : ¬ s.size = 0)
    | cons _ _ => rfl
  simp only [validB, hne, len_data]; simp; omega
theorem valid_out (s : ByteArray) (h : s.size = 0 ∨ 128 < s.size) : validB s.data.toList = false := by
  rcases h with h | h
  · have : s.data.toList = [] := List.length_eq_zero_iff.1 (by rw [len_data]; exact h)
    rw [this]; rfl
  · simp [validB]; omega

set_option maxHeartbeats 400000 in
theorem valid_any (s : ByteArray) (w : World) (hs : s.size ≤ maxLen) :
    Calls Try.prog 7 #[.string s] w fun e w' => e = .returned (.bool (validB s.data.toList)) ∧ w' = w := by
  unfold maxLen at hs
  by_cases h0 : s.size = 0
  · have he : s.toList.isEmpty = true := by rw [isEmpty_size]; simp [h0]
    have hv : validB s.data.toList = false := by
      have : s.data.toList = [] := List.length_eq_zero_iff.1 (by rw [len_data]; exact h0)
      rw [this]; rfl
    have HV := hide hv
    clear hv h0
    go_enter Try.func7, Try.ntmps7
    go_wp2
    go_ret
    exact ⟨ret_bool (unhide HV).symm, rfl⟩
  have he : s.toList.isEmpty = false := by rw [isEmpty_size]; simp [h0]
  have hne : s.data.toList.isEmpty = false := by
    cases h : s.data.toList with
    | nil => exact absurd (by rw [← len_data, h]; rfl) h0
    | cons _ _ => rfl
  by_cases h1 : 128 < s.size
  · have hv : validB s.data.toList = false := by
      simp [validB]; omega
    have HV := hide hv
    clear hv hne
    go_enter Try.func7, Try.ntmps7
    go_wp2
    go_ret
    exact ⟨ret_bool (unhide HV).symm, rfl⟩
  have hv : validB s.data.toList = allOk s.data.toList := by
    simp only [validB, hne, len_data]; simp; omega
  have HV := hide hv
  clear hv hne
  go_enter Try.func7, Try.ntmps7
  go_wp2
  go_loop [3] (fun i => ∃ k : Nat, k ≤ s.size ∧ i = .int .i64 k ∧ Hid (allOk (s.data.toList.take k) = true)) (fun i => s.size - (intOf i).toNat)
  case atStart => exact ⟨0, Nat.zero_le _, rfl, hide rfl⟩
  case round =>
    obtain ⟨k, hk, rfl, hok⟩ := hrel
    by_cases hlt : k < s.size
    · have HS := hide (allOk_take_succ s k hlt)
      go_wp2
      all_goals first
        | (have hc : okN s[k].toNat = false := by
             rw [Bool.eq_false_iff, ne_eq, okN_iff]
             simp only [beq_iff_eq, beq_eq_false_iff_ne, ne_eq] at *
             omega
           go_ret
           refine ⟨ret_bool ?_, rfl⟩
           rw [unhide HV]
           exact (allOk_false_of_take _ (k + 1) (by rw [unhide HS, hc, Bool.and_false])).symm)
        | (have hc : okN s[k].toNat = true := by
             rw [okN_iff]
             simp only [beq_iff_eq, beq_eq_false_iff_ne, ne_eq] at *
             omega
           go_round
           case rel => exact ⟨k + 1, by omega, by go_num, hide (by rw [unhide HS, unhide hok, hc]; rfl)⟩
           case measure => simp [intOf]; omega)
    · go_wp2
      go_ret
      refine ⟨ret_bool ?_, rfl⟩
      rw [unhide HV, ← unhide hok, List.take_of_length_le (by simp; omega)]

/-- The documented alphabet, byte by byte. -/
def alpha : List Nat := [45, 48, 49, 50, 51, 52, 53, 54, 55, 56, 57, 65, 66, 67, 68, 69, 70, 71, 72, 73, 74, 75, 76, 77, 78, 79, 80, 81, 82, 83, 84, 85, 86, 87, 88, 89, 90, 95, 97, 98, 99, 100, 101, 102, 103, 104, 105, 106, 107, 108, 109, 110, 111, 112, 113, 114, 115, 116, 117, 118, 119, 120, 121, 122]

def alphaBA : ByteArray := ⟨#[45, 48, 49, 50, 51, 52, 53, 54, 55, 56, 57, 65, 66, 67, 68, 69, 70, 71, 72, 73, 74, 75, 76, 77, 78, 79, 80, 81, 82, 83, 84, 85, 86, 87, 88, 89, 90, 95, 97, 98, 99, 100, 101, 102, 103, 104, 105, 106, 107, 108, 109, 110, 111, 112, 113, 114, 115, 116, 117, 118, 119, 120, 121, 122]⟩
theorem alphaBA_size : alphaBA.size = 64 := by decide +kernel
theorem alphaBA_at' : ∀ i : Fin 64, (alphaBA[i.val]'(by rw [alphaBA_size]; exact i.isLt)).toNat = alpha.getD i.val 0 := by decide +kernel
theorem alphaBA_at (k : Nat) (h : k < 64) (h' : k < alphaBA.size) : (alphaBA[k]'h').toNat = alpha.getD k 0 := alphaBA_at' ⟨k, h⟩
theorem alpha_ok' : ∀ i : Fin 64, okN (alpha.getD i.val 0) = true := by decide +kernel
theorem alpha_ok (k : Nat) (h : k < 64) : okN (alpha.getD k 0) = true := alpha_ok' ⟨k, h⟩
theorem alpha_all' : ∀ c : Fin 256, okN c.val = true → ∃ j : Fin 64, alpha.getD j.val 0 = c.val := by decide +kernel
theorem alpha_all (c : Int) (h0 : 0 ≤ c) (h1 : c ≤ 255) (h : ∀ j, j < 64 → (alpha.getD j 0 : Int) ≠ c) : okN c.toNat = false := by
  cases hc : okN c.toNat
  · rfl
  · obtain ⟨j, hj⟩ := alpha_all' ⟨c.toNat, by omega⟩ hc
    exact absurd (by rw [hj]; simp; omega) (h j.val j.isLt)

set_option maxHeartbeats 400000 in
theorem alpha_any (c : Int) (w : World) (h0 : 0 ≤ c) (h1 : c ≤ 255) :
    Calls Try.prog 6 #[.int .u8 c] w fun e w' => e = .returned (.bool (okN c.toNat)) ∧ w' = w := by
  go_enter Try.func6, Try.ntmps6
  go_wp2
  go_loop [3] (fun i => ∃ k : Nat, k ≤ 64 ∧ i = .int .i64 k ∧ Hid (∀ j, j < k → (alpha.getD j 0 : Int) ≠ c)) (fun i => 64 - (intOf i).toNat)
  case atStart => exact ⟨0, Nat.zero_le _, rfl, hide (fun j h => absurd h (Nat.not_lt_zero _))⟩
  case round =>
    obtain ⟨k, hk, rfl, hok⟩ := hrel
    by_cases hlt : k < 64
    · have hsz : k < alphaBA.size := by rw [alphaBA_size]; exact hlt
      go_wp2
      · have hq : (((alphaBA[k]'hsz).toNat : Int) == c) = true := by assumption
        rw [beq_iff_eq, alphaBA_at k hlt hsz] at hq
        go_ret
        refine ⟨ret_bool ?_, rfl⟩
        rw [← hq, Int.toNat_natCast, alpha_ok k hlt]
      · have hq : (((alphaBA[k]'hsz).toNat : Int) == c) = false := by assumption
        rw [beq_eq_false_iff_ne, alphaBA_at k hlt hsz] at hq
        go_round
        case rel => exact ⟨k + 1, by omega, by go_num, hide (fun j hj => by
          by_cases e : j = k
          · subst e; exact hq
          · exact unhide hok j (by omega))⟩
        case measure => simp [intOf]; omega
    · go_wp2
      go_ret
      refine ⟨ret_bool ?_, rfl⟩
      obtain rfl : k = 64 := by omega
      exact (alpha_all c h0 h1 (unhide hok)).symm
end Go.Proofs.Qxb6629258a
