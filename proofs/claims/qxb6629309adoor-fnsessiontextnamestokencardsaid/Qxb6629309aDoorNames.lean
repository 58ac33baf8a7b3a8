/-
  Seat b6629309aD: the walk of FnSessionTextNamesToken.
-/
import Derived.Test.Qxb6629309aDoorSess
namespace Go.Proofs.Qxb6629309aDoor
open Go.ChangeShapes Go.WideShapes Go.ChangeAt Go.RowKit
open Plain

theorem split_facts (e d : Nat) (he : e < 18446744073709551616) (hd : d < 18446744073709551616) :
    ∃ (S : ByteArray) (p : Nat), Hid (S = ⟨(text e d).toArray⟩) ∧ S.size ≤ 1000 ∧ ∃ hp : p < S.size, Hid ((S[p]'hp).toNat = 46) ∧ Hid (∀ k (h : k < S.size), k ≠ p → (S[k]'h).toNat ≠ 46) ∧
      Hid ((S.extract 0 p).data.toList = Lib.decDigits e) ∧ Hid ((S.extract (p + 1) S.size).data.toList = Lib.decDigits d) := by
  have hsz : (⟨(text e d).toArray⟩ : ByteArray).size = (text e d).length := rfl
  have hl := text_length e d
  have h1 := Lib.nDigits_le20 e he
  have h2 := Lib.nDigits_le20 d hd
  have h3 := Lib.nDigits_pos d
  refine ⟨⟨(text e d).toArray⟩, Lib.nDigits e, rfl, by rw [hsz]; omega, by rw [hsz]; omega, ?_, ?_, ?_, ?_⟩
  · show (((text e d).toArray)[Lib.nDigits e]'_).toNat = 46
    rw [List.getElem_toArray, text_dot e d (by omega)]
    rfl
  · intro k h hne hc
    have hk : k < (text e d).length := h
    refine text_other e d k hk hne ?_
    apply UInt8.toNat_inj.1
    rw [← List.getElem_toArray (xs := text e d)]
    · exact hc
  · show ((⟨(text e d).toArray⟩ : ByteArray).extract 0 (Lib.nDigits e)).data.toList = Lib.decDigits e
    rw [Lib.extract_data, List.drop_zero, Nat.sub_zero]
    exact text_take e d
  · show ((⟨(text e d).toArray⟩ : ByteArray).extract (Lib.nDigits e + 1) _).data.toList = Lib.decDigits d
    rw [Lib.extract_data, hsz]
    show ((text e d).drop (Lib.nDigits e + 1)).take _ = _
    rw [text_drop, List.take_of_length_le (by rw [Lib.decDigits_length]; omega)]

set_option maxHeartbeats 1600000 in
theorem names_some (e d : Nat) (he : e < 18446744073709551616) (hd : d < 18446744073709551616) (w : World) (htab : Lib.TabIs Tryd.prog w Tryd.powName .u64 Lib.pow10Tab) :
    Calls Tryd.prog 3 #[.bool true, .int .u64 e, .int .u64 d] w fun r w' => r = .returned (.bool true) ∧ Below w.heap.size w w' := by
  obtain ⟨S, p, hS, hSz, hp, hdot, hno, hx, hy⟩ := split_facts e d he hd
  go_enter Tryd.func3, Tryd.ntmps3
  go_wp2_with fail
  refine (client_some e d _).mono ?_
  rintro _ w1 ⟨rfl, rfl⟩
  go_wp2_with fail
  refine (ready_some e d he hd w htab).mono ?_
  rintro _ w1 ⟨rfl, hb1, ht1⟩
  rw [← hS.out]
  go_wp2_with fail
  refine (split_any S p _ hSz hp hdot.out hno.out).mono ?_
  rintro _ w2 ⟨rfl, n, rfl⟩
  go_wp2_with fail
  refine (parse_any (S.extract 0 p) e _ (by omega) hx.out).mono ?_
  rintro _ w3 ⟨rfl, rfl⟩
  go_wp2_with fail
  refine (parse_any (S.extract (p + 1) S.size) d _ (by omega) hy.out).mono ?_
  rintro _ w3 ⟨rfl, rfl⟩
  go_wp2
  go_ret
  exact ⟨rfl, below_drewN hb1 _⟩

set_option maxHeartbeats 1600000 in
theorem names_none (e d : Nat) (w : World) (htab : Lib.TabIs Tryd.prog w Tryd.powName .u64 Lib.pow10Tab) :
    Calls Tryd.prog 3 #[.bool false, .int .u64 e, .int .u64 d] w fun r w' => r = .returned (.bool true) ∧ Below w.heap.size w w' := by
  go_enter Tryd.func3, Tryd.ntmps3
  go_wp2_with fail
  refine (client_none e d _).mono ?_
  rintro _ w1 ⟨rfl, rfl⟩
  go_wp2_with fail
  refine (ready_none w htab).mono ?_
  rintro _ w1 ⟨rfl, hb1, ht1⟩
  go_wp2
  go_ret
  exact ⟨rfl, hb1⟩
end Go.Proofs.Qxb6629309aDoor
