/-
  Seat b6629309aD: the plain laws of decimal numerals (no Go in sight). 'decDigits', 'nDigits': the guide's library (Derived/Lib/ItoaNum.lean).
-/
import Derived.Lib.ItoaNum
namespace Go.Proofs.Qxb6629309aDoor.Plain
open Go.Lib

/-- What a list of digits reads as. -/
def val (l : List UInt8) : Nat := l.foldl (fun v c => v * 10 + (c.toNat - 48)) 0

theorem val_snoc (l : List UInt8) (c : UInt8) : val (l ++ [c]) = val l * 10 + (c.toNat - 48) := by
  simp [val, List.foldl_append]

theorem val_append_le (l m : List UInt8) : val l ≤ val (l ++ m) := by
  unfold val
  rw [List.foldl_append]
  generalize l.foldl (fun v c => v * 10 + (c.toNat - 48)) 0 = a
  induction m generalizing a with
  | nil => exact Nat.le_refl _
  | cons c m ih =>
    rw [List.foldl_cons]
    exact Nat.le_trans (by omega) (ih _)

theorem val_take_le (l : List UInt8) (k : Nat) : val (l.take k) ≤ val l := by
  have h := val_append_le (l.take k) (l.drop k)
  rwa [List.take_append_drop] at h

theorem byte_toNat (n : Nat) (h : n < 10) : (UInt8.ofNat (48 + n)).toNat = 48 + n := by
  rw [UInt8.toNat_ofNat']
  omega

theorem val_dec (u : Nat) : val (decDigits u) = u := by
  induction u using Nat.strongRecOn with
  | _ u ih =>
    by_cases h : u < 10
    · rw [decDigits, dif_pos h]
      show 0 * 10 + ((UInt8.ofNat (48 + u)).toNat - 48) = u
      rw [byte_toNat u h]; omega
    · rw [decDigits, dif_neg h, val_snoc, ih (u / 10) (by omega), byte_toNat (u % 10) (by omega)]
      omega

theorem dec_digit (u : Nat) : ∀ c ∈ decDigits u, 48 ≤ c.toNat ∧ c.toNat ≤ 57 := by
  induction u using Nat.strongRecOn with
  | _ u ih =>
    intro c hc
    by_cases h : u < 10
    · rw [decDigits, dif_pos h] at hc
      rw [List.mem_singleton.1 hc, byte_toNat u h]; omega
    · rw [decDigits, dif_neg h, List.mem_append] at hc
      rcases hc with hc | hc
      · exact ih (u / 10) (by omega) c hc
      · rw [List.mem_singleton.1 hc, byte_toNat (u % 10) (by omega)]; omega

theorem dec_ne_nil (u : Nat) : decDigits u ≠ [] := by
  intro h
  have h1 := decDigits_length u
  have h2 := nDigits_pos u
  rw [h] at h1
  simp at h1
  omega

theorem dec_head (u : Nat) (h : 1 ≤ u) : ∀ c, (decDigits u).head? = some c → 49 ≤ c.toNat := by
  induction u using Nat.strongRecOn with
  | _ u ih =>
    intro c hc
    by_cases h10 : u < 10
    · rw [decDigits, dif_pos h10] at hc
      simp only [List.head?_cons, Option.some.injEq] at hc
      rw [← hc, byte_toNat u h10]; omega
    · rw [decDigits, dif_neg h10] at hc
      cases hd : decDigits (u / 10) with
      | nil => exact absurd hd (dec_ne_nil _)
      | cons x l =>
        rw [hd] at hc
        exact ih (u / 10) (by omega) (by omega) c (by rw [hd]; exact hc)

theorem dec_one_of_small (u : Nat) (h : 1 < (decDigits u).length) : 1 ≤ u := by
  by_cases h0 : u < 10
  · rw [decDigits, dif_pos h0] at h
    simp at h
  · omega

theorem dec_inj {a b : Nat} (h : decDigits a = decDigits b) : a = b := by
  rw [← val_dec a, ← val_dec b, h]

/-- The token's text. -/
def text (e d : Nat) : List UInt8 := decDigits e ++ 46 :: decDigits d

theorem no_dot (u : Nat) : ∀ c ∈ decDigits u, c ≠ 46 := by
  intro c hc h
  have := dec_digit u c hc
  rw [h] at this
  exact absurd this.1 (by decide)

theorem split_inj : ∀ (a a' b b' : List UInt8), (∀ c ∈ a, c ≠ 46) → (∀ c ∈ a', c ≠ 46) → a ++ 46 :: b = a' ++ 46 :: b' → a = a' ∧ b = b' := by
  intro a
  induction a with
  | nil =>
    intro a' b b' _ h' h
    cases a' with
    | nil => simp at h; exact ⟨rfl, h⟩
    | cons x a' =>
      simp at h
      exact absurd h.1.symm (h' x (by simp))
  | cons x a ih =>
    intro a' b b' h1 h' h
    cases a' with
    | nil =>
      simp at h
      exact absurd h.1 (h1 x (by simp))
    | cons y a' =>
      simp at h
      obtain ⟨r1, r2⟩ := ih a' b b' (fun c hc => h1 c (by simp [hc])) (fun c hc => h' c (by simp [hc])) h.2
      exact ⟨by rw [h.1, r1], r2⟩

theorem text_inj {e d e' d' : Nat} (h : text e d = text e' d') : e = e' ∧ d = d' := by
  obtain ⟨h1, h2⟩ := split_inj _ _ _ _ (no_dot e) (no_dot e') h
  exact ⟨dec_inj h1, dec_inj h2⟩

theorem text_ne_nil (e d : Nat) : text e d ≠ [] := by simp [text]
theorem text_length (e d : Nat) : (text e d).length = nDigits e + nDigits d + 1 := by
  simp [text, decDigits_length]; omega

theorem text_dot (e d : Nat) (h : nDigits e < (text e d).length) : (text e d)[nDigits e] = 46 := by
  have h1 := decDigits_length e
  simp only [text]
  rw [List.getElem_append_right (by omega)]
  simp [h1]

theorem text_other (e d k : Nat) (h : k < (text e d).length) (hne : k ≠ nDigits e) : (text e d)[k] ≠ 46 := by
  have h1 := decDigits_length e
  by_cases hk : k < nDigits e
  · have : (text e d)[k] = (decDigits e)[k] := by
      simp only [text]; rw [List.getElem_append_left (by omega)]
    rw [this]
    exact no_dot e _ (List.getElem_mem _)
  · have hl := text_length e d
    have h2 := decDigits_length d
    have : (text e d)[k] = (decDigits d)[k - nDigits e - 1]'(by omega) := by
      simp only [text]
      rw [List.getElem_append_right (by omega), List.getElem_cons]
      rw [dif_neg (by omega)]
      simp only [h1]
    rw [this]
    exact no_dot d _ (List.getElem_mem _)

theorem text_take (e d : Nat) : (text e d).take (nDigits e) = decDigits e := by
  unfold text
  rw [List.take_append_of_le_length (by rw [decDigits_length]; exact Nat.le_refl _), ← decDigits_length, List.take_length]
theorem text_drop (e d : Nat) : (text e d).drop (nDigits e + 1) = decDigits d := by
  unfold text
  rw [← decDigits_length, ← List.drop_drop, List.drop_left]
  rfl

end Go.Proofs.Qxb6629309aDoor.Plain
