/-
  Seat b6629258a: the plain law of padding (no Go in sight).
-/
import Derived.Test.Qxb6629258aPlain
namespace Go.Proofs.Qxb6629258a.Plain

/-- n letters 'a' put into l at byte i. -/
def padT (l : List UInt8) (i n : Nat) : List UInt8 := l.take i ++ List.replicate n 97 ++ l.drop i
theorem padT_length (l : List UInt8) (i n : Nat) (h : i ≤ l.length) : (padT l i n).length = l.length + n := by
  simp [padT]; omega
theorem allOk_replicate (n : Nat) : allOk (List.replicate n 97) = true := by
  unfold allOk
  rw [List.all_eq_true]
  intro c hc
  rw [(List.mem_replicate.1 hc).2]
  rfl
theorem allOk_padT (l : List UInt8) (i n : Nat) : allOk (padT l i n) = allOk l := by
  have h : allOk l = (allOk (l.take i) && allOk (l.drop i)) := by rw [← allOk_append, List.take_append_drop]
  rw [h, padT, allOk_append, allOk_append, allOk_replicate, Bool.and_true]
theorem validB_in (l : List UInt8) (h0 : 1 ≤ l.length) (h1 : l.length ≤ 128) : validB l = allOk l := by
  cases l with
  | nil => simp at h0
  | cons a l => simp only [validB, List.isEmpty_cons, Bool.not_false, Bool.true_and, decide_eq_true h1]
theorem validB_out (l : List UInt8) (h : l.length = 0 ∨ 128 < l.length) : validB l = false := by
  rcases h with h | h
  · rw [List.length_eq_zero_iff.1 h]; rfl
  · simp only [validB, decide_eq_false (Nat.not_le.2 h), Bool.and_false, Bool.false_and]
theorem pad_in (l : List UInt8) (i n : Nat) (h : i ≤ l.length) (h0 : 1 ≤ l.length + n) (h1 : l.length + n ≤ 128) : validB (padT l i n) = allOk l := by
  rw [validB_in _ (by rw [padT_length l i n h]; exact h0) (by rw [padT_length l i n h]; exact h1), allOk_padT]
theorem pad_out (l : List UInt8) (i n : Nat) (h : i ≤ l.length) (h0 : l.length + n = 0 ∨ 128 < l.length + n) : validB (padT l i n) = false :=
  validB_out _ (by rw [padT_length l i n h]; exact h0)

end Go.Proofs.Qxb6629258a.Plain
