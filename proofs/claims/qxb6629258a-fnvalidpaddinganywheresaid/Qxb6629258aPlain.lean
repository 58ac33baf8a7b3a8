/-
  Seat b6629258a: the plain functions (no Go in sight).
-/
namespace Go.Proofs.Qxb6629258a.Plain

/-- Is the byte n one of the bytes of an id? -/
def okN (n : Nat) : Bool := (decide (97 ≤ n) && decide (n ≤ 122)) || (decide (65 ≤ n) && decide (n ≤ 90)) || (decide (48 ≤ n) && decide (n ≤ 57)) || n == 45 || n == 95
def allOk (l : List UInt8) : Bool := l.all (fun c => okN c.toNat)
def validB (l : List UInt8) : Bool := !l.isEmpty && decide (l.length ≤ 128) && allOk l

theorem okN_iff (n : Nat) : okN n = true ↔ (97 ≤ n ∧ n ≤ 122) ∨ (65 ≤ n ∧ n ≤ 90) ∨ (48 ≤ n ∧ n ≤ 57) ∨ n = 45 ∨ n = 95 := by
  simp [okN, or_assoc]

theorem allOk_append (a b : List UInt8) : allOk (a ++ b) = (allOk a && allOk b) := by
  simp [allOk]

theorem allOk_take_succ (s : ByteArray) (k : Nat) (h : k < s.size) : allOk (s.data.toList.take (k + 1)) = (allOk (s.data.toList.take k) && okN s[k].toNat) := by
  rw [List.take_succ_eq_append_getElem (by simpa using h), allOk_append]
  simp only [allOk, List.all_cons, List.all_nil, Bool.and_true]
  rfl

theorem allOk_false_of_take (l : List UInt8) (k : Nat) (h : allOk (l.take k) = false) : allOk l = false := by
  rw [← List.take_append_drop k l, allOk_append, h, Bool.false_and]

end Go.Proofs.Qxb6629258a.Plain
