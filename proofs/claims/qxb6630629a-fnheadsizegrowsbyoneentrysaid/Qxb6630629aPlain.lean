/-
  Seat b6630629a: the plain laws of varint sizes (no Go in sight).
-/
namespace Go.Proofs.Qxb6630629a.Plain

/-- How many bits x has. -/
def bl (x : Nat) : Nat := if h : x = 0 then 0 else bl (x / 2) + 1
/-- How many groups of seven bits x has, one at least. -/
def uv (x : Nat) : Nat := if h : x < 128 then 1 else uv (x / 128) + 1

theorem bl_zero : bl 0 = 0 := by rw [bl]; rfl
theorem bl_pos {x : Nat} (h : x ≠ 0) : bl x = bl (x / 2) + 1 := by rw [bl, dif_neg h]
theorem uv_small {x : Nat} (h : x < 128) : uv x = 1 := by rw [uv, dif_pos h]
theorem uv_big {x : Nat} (h : ¬ x < 128) : uv x = uv (x / 128) + 1 := by rw [uv, dif_neg h]

theorem bl_le (f : Nat) : ∀ x, x < 2 ^ f → bl x ≤ f := by
  induction f with
  | zero => intro x h; have : x = 0 := by simp at h; exact h
            rw [this, bl_zero]; exact Nat.le_refl _
  | succ f ih =>
    intro x h
    by_cases h0 : x = 0
    · rw [h0, bl_zero]; omega
    · rw [bl_pos h0]
      have := ih (x / 2) (by rw [Nat.pow_succ] at h; omega)
      omega

theorem bl_128 (x : Nat) (h : ¬ x < 128) : bl x = bl (x / 128) + 7 := by
  have e1 : x / 2 / 2 / 2 / 2 / 2 / 2 / 2 = x / 128 := by omega
  rw [bl_pos (x := x) (by omega), bl_pos (x := x / 2) (by omega), bl_pos (x := x / 2 / 2) (by omega), bl_pos (x := x / 2 / 2 / 2) (by omega), bl_pos (x := x / 2 / 2 / 2 / 2) (by omega), bl_pos (x := x / 2 / 2 / 2 / 2 / 2) (by omega), bl_pos (x := x / 2 / 2 / 2 / 2 / 2 / 2) (by omega), e1]

theorem uv_bl (x : Nat) : uv x = if x = 0 then 1 else (bl x + 6) / 7 := by
  induction x using Nat.strongRecOn with
  | _ x ih =>
    by_cases h0 : x = 0
    · rw [if_pos h0, uv_small (by omega)]
    · rw [if_neg h0]
      by_cases h : x < 128
      · rw [uv_small h]
        have h1 := bl_le 7 x (by omega)
        have h2 := bl_pos h0
        omega
      · have hne : x / 128 ≠ 0 := by omega
        rw [uv_big h, ih (x / 128) (by omega), if_neg hne, bl_128 x h]
        omega

theorem uv_pos (x : Nat) : 1 ≤ uv x := by
  by_cases h : x < 128
  · rw [uv_small h]; exact Nat.le_refl _
  · rw [uv_big h]; omega
theorem uv_le (x : Nat) (h : x < 18446744073709551616) : uv x ≤ 10 := by
  rw [uv_bl]
  split
  · omega
  · have := bl_le 64 x (by omega)
    omega
end Go.Proofs.Qxb6630629a.Plain
