/-
  Seat b6629309aD: the walks of the laws' own helpers: zzSplitDot, zzParseCanon, zzDigits.
-/
import Derived.Test.Qxb6629309aDoorRows
import Derived.Test.Qxb6629309aDoorPlain
import Derived.WalkKit
import Derived.ProofKit
import Derived.WalkSpells
import Derived.RegionTactic
import Derived.Deep.QuietTactic
import Derived.BigQuiet
import Derived.Lib.Strings
import Derived.Lib.ItoaLen
import Derived.Outline
namespace Go.Proofs.Qxb6629309aDoor
open Go.ChangeShapes Go.WideShapes Go.ChangeAt Go.RowKit
open Plain

theorem hide {p : Prop} (h : p) : Hid p := h
theorem unhide {p : Prop} (h : Hid p) : p := h

theorem ret_int {k : IntKind} {a b : Int} (h : a = b) : Ending.returned (.int k a) = .returned (.int k b) := by rw [h]

set_option maxHeartbeats 400000 in
/-- zzDigits: the number of decimal digits. -/
theorem digits_any (u : Int) (w : World) (h0 : 0 ≤ u) (h1 : u ≤ 18446744073709551615) :
    Calls Tryd.prog 9 #[.int .u64 u] w fun e w' => e = .returned (.int .i64 (Lib.nDigits u.toNat)) ∧ w' = w := by
  go_enter Tryd.func9, Tryd.ntmps9
  go_wp2
  have hn20 : Lib.nDigits u.toNat ≤ 20 := Lib.nDigits_le20 u.toNat (by omega)
  go_loop [0, 3] (fun v n => ∃ (x : Int) (m : Nat), 0 ≤ x ∧ x ≤ 18446744073709551615 ∧ 1 ≤ m ∧ m ≤ 20 ∧ v = .int .u64 x ∧ n = .int .i64 m ∧ Hid (Lib.nDigits x.toNat + m = Lib.nDigits u.toNat + 1)) (fun v _ => (intOf v).toNat)
  case atStart => exact ⟨u, 1, h0, h1, by omega, by omega, rfl, rfl, hide rfl⟩
  case round =>
    obtain ⟨x, m, hx0, hx1, hm0, hm1, rfl, rfl, hd⟩ := hrel
    by_cases h10 : 10 ≤ x
    · have hb := Lib.nDigits_big (u := x.toNat) (by omega)
      have hp := Lib.nDigits_pos (x.toNat / 10)
      have hm2 : m + 1 ≤ 20 := by have := unhide hd; omega
      have HB := hide hb
      clear hb hp hn20
      go_wp2
      go_round
      case rel => exact ⟨x / 10, m + 1, by omega, by omega, by omega, hm2, by go_num, by go_num, hide (by
        have e : (x / 10).toNat = x.toNat / 10 := by omega
        rw [e]; have := unhide hd; have := unhide HB; omega)⟩
      case measure => simp [intOf]; omega
    · have hb := Lib.nDigits_small (u := x.toNat) (by omega)
      have HB := hide hb
      clear hb hn20
      go_wp2
      go_ret
      refine ⟨ret_int ?_, rfl⟩
      have := unhide hd; have := unhide HB; omega

/-- zzSplitDot at a text whose one '.' lies at p. -/
theorem split_any (s : ByteArray) (p : Nat) (w : World) (hs : s.size ≤ 1000) (hp : p < s.size) (hdot : (s[p]'hp).toNat = 46) (hno : ∀ k (h : k < s.size), k ≠ p → (s[k]'h).toNat ≠ 46) :
    Calls Tryd.prog 7 #[.string s] w fun e w' => e = .returned (.tuple #[.string (s.extract 0 p), .string (s.extract (p + 1) s.size), .bool true]) ∧ ∃ n, w' = w.drewN n := by
  have HN := hide hno
  have HD := hide hdot
  clear hno hdot
  go_enter Tryd.func7, Tryd.ntmps7
  go_wp2
  go_loop [5, 6] (fun q i => ∃ (k : Nat) (q' : Int), k ≤ s.size ∧ i = .int .i64 k ∧ q = .int .i64 q' ∧ ((k ≤ p ∧ q' < 0) ∨ (p < k ∧ (p : Int) ≤ q' ∧ q' ≤ (p : Int)))) (fun _ i => s.size - (intOf i).toNat)
  case atStart => exact ⟨0, -1, Nat.zero_le _, rfl, rfl, .inl ⟨by omega, by omega⟩⟩
  case round =>
    obtain ⟨k, q', hk, rfl, rfl, hq⟩ := hrel
    by_cases hlt : k < s.size
    · by_cases hkp : k = p
      · have hq' : q' < 0 := by omega
        have hb : (((s[k]'hlt).toNat : Int) == 46) = true := by rw [beq_iff_eq]; have := unhide HD; simp only [hkp]; omega
        have HKP := hide hkp
        clear hkp hq
        go_wp2
        go_round
        case rel => exact ⟨k + 1, k, by omega, by go_num, rfl, .inr (by have := unhide HKP; omega)⟩
        case measure => simp [intOf]; omega
      · have hb : (((s[k]'hlt).toNat : Int) == 46) = false := by rw [beq_eq_false_iff_ne]; have := unhide HN k hlt hkp; omega
        go_wp2
        go_round
        case rel => exact ⟨k + 1, q', by omega, by go_num, rfl, by omega⟩
        case measure => simp [intOf]; omega
    · have hq0 : (p : Int) ≤ q' ∧ q' ≤ (p : Int) := by omega
      obtain rfl : q' = (p : Int) := by omega
      clear hq hq0
      have hp0 : (0 : Int) ≤ (p : Int) := by omega
      have hps : (p : Int) < (s.size : Int) := by omega
      go_wp2
      go_quiet (fail)
      go_wp2
      go_ret3
      exact ⟨rfl, _, rfl⟩

theorem take_snoc (s : ByteArray) (k : Nat) (h : k < s.size) : s.data.toList.take (k + 1) = s.data.toList.take k ++ [s[k]] := by
  rw [List.take_succ_eq_append_getElem (by simpa using h)]; rfl

theorem parse_facts (s : ByteArray) (u : Nat) (hu : u ≤ 18446744073709551615) (hs : s.data.toList = Lib.decDigits u) :
    1 ≤ s.size ∧ s.size ≤ 20 ∧ (∀ h : 1 < s.size, (s[0]'(by omega)).toNat ≠ 48) ∧ (∀ k (h : k < s.size), 48 ≤ (s[k]'h).toNat ∧ (s[k]'h).toNat ≤ 57) ∧
      (∀ k (h : k < s.size), val (s.data.toList.take (k + 1)) = val (s.data.toList.take k) * 10 + ((s[k]'h).toNat - 48) ∧ val (s.data.toList.take (k + 1)) ≤ 18446744073709551615) ∧ val (s.data.toList.take s.size) = u := by
  have hlen : s.size = (Lib.decDigits u).length := by rw [← hs]; simp
  rw [Lib.decDigits_length] at hlen
  have hp := Lib.nDigits_pos u
  have h20 := Lib.nDigits_le20 u (by omega)
  refine ⟨by omega, by omega, ?_, ?_, ?_, ?_⟩
  · intro h
    have h1 : 1 ≤ u := dec_one_of_small u (by rw [Lib.decDigits_length]; omega)
    have hh := dec_head u h1 (s[0]'(by omega)) (by
      rw [← hs, List.head?_eq_getElem?, List.getElem?_eq_getElem (by simp; omega)]
      rfl)
    omega
  · intro k h
    exact dec_digit u _ (by rw [← hs]; exact Array.getElem_mem_toList (xs := s.data) (h := h))
  · intro k h
    refine ⟨by rw [take_snoc s k h, val_snoc], ?_⟩
    have := val_take_le s.data.toList (k + 1)
    rw [hs, val_dec] at this
    rw [hs]; omega
  · rw [List.take_of_length_le (by simp), hs, val_dec]

set_option maxHeartbeats 800000 in
/-- zzParseCanon at a numeral. -/
theorem parse_any (s : ByteArray) (u : Nat) (w : World) (hu : u ≤ 18446744073709551615) (hs : s.data.toList = Lib.decDigits u) :
    Calls Tryd.prog 8 #[.string s] w fun e w' => e = .returned (.tuple #[.int .u64 u, .bool true]) ∧ w' = w := by
  obtain ⟨hz1, hz2, hhead, hdig, hstep, hfin⟩ := parse_facts s u hu hs
  have HH := hide hhead
  have HG := hide hdig
  have HS := hide hstep
  have HF := hide hfin
  clear hhead hdig hstep hfin hs hu
  have hne : ((s.size : Int) == 0) = false := by rw [beq_eq_false_iff_ne]; omega
  have hle : decide ((20 : Int) < (s.size : Int)) = false := decide_eq_false (by omega)
  by_cases hone : 1 < s.size
  · have hh0 : (((s[0]'(by omega)).toNat : Int) == 48) = false := by rw [beq_eq_false_iff_ne]; have := unhide HH hone; omega
    have hd1 : decide ((1 : Int) < (s.size : Int)) = true := decide_eq_true (by omega)
    go_enter Tryd.func8, Tryd.ntmps8
    go_wp2
    go_loop [4, 5] (fun v i => ∃ (k : Nat) (a : Int), k ≤ s.size ∧ i = .int .i64 k ∧ v = .int .u64 a ∧ 0 ≤ a ∧ Hid (a = (val (s.data.toList.take k) : Int))) (fun _ i => s.size - (intOf i).toNat)
    case atStart => exact ⟨0, 0, Nat.zero_le _, rfl, rfl, by omega, hide rfl⟩
    case round =>
      obtain ⟨k, a, hk, rfl, rfl, ha0, hav⟩ := hrel
      by_cases hlt : k < s.size
      · have hg1 : (48 : Int) ≤ ((s[k]'hlt).toNat : Int) := by have := unhide HG k hlt; omega
        have hg2 : ((s[k]'hlt).toNat : Int) ≤ 57 := by have := unhide HG k hlt; omega
        have hov : a * 10 + (((s[k]'hlt).toNat : Int) - 48) ≤ 18446744073709551615 := by have := unhide HS k hlt; have := unhide hav; omega
        go_wp2
        go_round
        case rel => exact ⟨k + 1, a * 10 + (((s[k]'hlt).toNat : Int) - 48), by omega, by go_num, rfl, by omega, hide (by have := unhide HS k hlt; have := unhide hav; omega)⟩
        case measure => simp [intOf]; omega
      · have ea : a = (u : Int) := by rw [unhide hav, show k = s.size from by omega, unhide HF]
        subst ea
        go_wp2
        go_ret2
        exact ⟨rfl, rfl⟩
  · have hd1 : decide ((1 : Int) < (s.size : Int)) = false := decide_eq_false (by omega)
    go_enter Tryd.func8, Tryd.ntmps8
    go_wp2
    go_loop [4, 5] (fun v i => ∃ (k : Nat) (a : Int), k ≤ s.size ∧ i = .int .i64 k ∧ v = .int .u64 a ∧ 0 ≤ a ∧ Hid (a = (val (s.data.toList.take k) : Int))) (fun _ i => s.size - (intOf i).toNat)
    case atStart => exact ⟨0, 0, Nat.zero_le _, rfl, rfl, by omega, hide rfl⟩
    case round =>
      obtain ⟨k, a, hk, rfl, rfl, ha0, hav⟩ := hrel
      by_cases hlt : k < s.size
      · have hg1 : (48 : Int) ≤ ((s[k]'hlt).toNat : Int) := by have := unhide HG k hlt; omega
        have hg2 : ((s[k]'hlt).toNat : Int) ≤ 57 := by have := unhide HG k hlt; omega
        have hov : a * 10 + (((s[k]'hlt).toNat : Int) - 48) ≤ 18446744073709551615 := by have := unhide HS k hlt; have := unhide hav; omega
        go_wp2
        go_round
        case rel => exact ⟨k + 1, a * 10 + (((s[k]'hlt).toNat : Int) - 48), by omega, by go_num, rfl, by omega, hide (by have := unhide HS k hlt; have := unhide hav; omega)⟩
        case measure => simp [intOf]; omega
      · have ea : a = (u : Int) := by rw [unhide hav, show k = s.size from by omega, unhide HF]
        subst ea
        go_wp2
        go_ret2
        exact ⟨rfl, rfl⟩
end Go.Proofs.Qxb6629309aDoor
