/-
  Seat b6629309aD: the walk of FnSessionDistinguishesTokens.
-/
import Derived.Test.Qxb6629309aDoorSess
namespace Go.Proofs.Qxb6629309aDoor
open Go.ChangeShapes Go.WideShapes Go.ChangeAt Go.RowKit
open Plain

theorem digits_nat (u : Nat) (w : World) (h1 : u < 18446744073709551616) :
    Calls Tryd.prog 9 #[.int .u64 u] w fun e w' => e = .returned (.int .i64 (Lib.nDigits u)) ∧ w = w' := by
  refine (digits_any (u : Int) w (by omega) (by omega)).mono ?_
  rintro e w' ⟨he, hw⟩
  rw [Int.toNat_natCast] at he
  exact ⟨he, hw.symm⟩

theorem text_size (e d : Nat) : (⟨(text e d).toArray⟩ : ByteArray).size = Lib.nDigits e + Lib.nDigits d + 1 := by
  show (text e d).toArray.size = _
  rw [List.size_toArray, text_length]

theorem text_beq (e d e' d' : Nat) : ((⟨(text e d).toArray⟩ : ByteArray).toList == (⟨(text e' d').toArray⟩ : ByteArray).toList) = decide (e = e' ∧ d = d') := by
  rw [ByteArray.toList_eq, ByteArray.toList_eq, Bool.eq_iff_iff, beq_iff_eq, decide_eq_true_iff]
  show text e d = text e' d' ↔ _
  constructor
  · exact text_inj
  · rintro ⟨rfl, rfl⟩; rfl
theorem text_beq_nil (e d : Nat) : (⟨(text e d).toArray⟩ : ByteArray).toList.isEmpty = false := by
  rw [ByteArray.toList_eq]
  show (text e d).isEmpty = false
  cases h : text e d with
  | nil => exact absurd h (text_ne_nil e d)
  | cons _ _ => rfl

set_option maxHeartbeats 1600000 in
theorem dist_ff (e1 d1 e2 d2 : Nat) (w : World) (htab : Lib.TabIs Tryd.prog w Tryd.powName .u64 Lib.pow10Tab) :
    Calls Tryd.prog 4 #[.bool false, .int .u64 e1, .int .u64 d1, .bool false, .int .u64 e2, .int .u64 d2] w fun r w' => r = .returned (.bool true) ∧ Below w.heap.size w w' := by
  go_enter Tryd.func4, Tryd.ntmps4
  go_wp2_with fail
  refine (client_none e1 d1 _).mono ?_
  rintro _ w1 ⟨rfl, rfl⟩
  go_wp2_with fail
  refine (ready_none w htab).mono ?_
  rintro _ w1 ⟨rfl, hb1, ht1⟩
  go_wp2_with fail
  refine (client_none e2 d2 _).mono ?_
  rintro _ w2 ⟨rfl, rfl⟩
  go_wp2_with fail
  refine (ready_none w1 ht1).mono ?_
  rintro _ w2 ⟨rfl, hb2, ht2⟩
  go_wp2
  go_ret
  exact ⟨rfl, hb1.trans (hb2.mono hb1.size)⟩

set_option maxHeartbeats 1600000 in
theorem dist_ft (e1 d1 e2 d2 : Nat) (he : e2 < 18446744073709551616) (hd : d2 < 18446744073709551616) (w : World) (htab : Lib.TabIs Tryd.prog w Tryd.powName .u64 Lib.pow10Tab) :
    Calls Tryd.prog 4 #[.bool false, .int .u64 e1, .int .u64 d1, .bool true, .int .u64 e2, .int .u64 d2] w fun r w' => r = .returned (.bool true) ∧ Below w.heap.size w w' := by
  obtain ⟨S, hS, hem⟩ : ∃ S : ByteArray, Hid (S = ⟨(text e2 d2).toArray⟩) ∧ S.toList.isEmpty = false := ⟨_, rfl, text_beq_nil e2 d2⟩
  go_enter Tryd.func4, Tryd.ntmps4
  go_wp2_with fail
  refine (client_none e1 d1 _).mono ?_
  rintro _ w1 ⟨rfl, rfl⟩
  go_wp2_with fail
  refine (ready_none w htab).mono ?_
  rintro _ w1 ⟨rfl, hb1, ht1⟩
  go_wp2_with fail
  refine (client_some e2 d2 _).mono ?_
  rintro _ w2 ⟨rfl, rfl⟩
  go_wp2_with fail
  refine (ready_some e2 d2 he hd w1 ht1).mono ?_
  rintro _ w2 ⟨rfl, hb2, ht2⟩
  rw [← hS.out]
  go_wp2
  go_ret
  exact ⟨rfl, hb1.trans (hb2.mono hb1.size)⟩

set_option maxHeartbeats 1600000 in
theorem dist_tf (e1 d1 e2 d2 : Nat) (he : e1 < 18446744073709551616) (hd : d1 < 18446744073709551616) (w : World) (htab : Lib.TabIs Tryd.prog w Tryd.powName .u64 Lib.pow10Tab) :
    Calls Tryd.prog 4 #[.bool true, .int .u64 e1, .int .u64 d1, .bool false, .int .u64 e2, .int .u64 d2] w fun r w' => r = .returned (.bool true) ∧ Below w.heap.size w w' := by
  obtain ⟨S, hS, hem, hsz⟩ : ∃ S : ByteArray, Hid (S = ⟨(text e1 d1).toArray⟩) ∧ S.toList.isEmpty = false ∧ (((S.size : Int) == (Lib.nDigits e1 : Int) + (Lib.nDigits d1 : Int) + 1) = true) := ⟨_, rfl, text_beq_nil e1 d1, by rw [text_size, beq_iff_eq]; omega⟩
  have hn1 := Lib.nDigits_le20 e1 he
  have hn2 := Lib.nDigits_le20 d1 hd
  go_enter Tryd.func4, Tryd.ntmps4
  go_wp2_with fail
  refine (client_some e1 d1 _).mono ?_
  rintro _ w1 ⟨rfl, rfl⟩
  go_wp2_with fail
  refine (ready_some e1 d1 he hd w htab).mono ?_
  rintro _ w1 ⟨rfl, hb1, ht1⟩
  rw [← hS.out]
  go_wp2_with fail
  refine (client_none e2 d2 _).mono ?_
  rintro _ w2 ⟨rfl, rfl⟩
  go_wp2_with fail
  refine (ready_none w1 ht1).mono ?_
  rintro _ w2 ⟨rfl, hb2, ht2⟩
  go_wp2_with fail
  refine (digits_nat e1 _ he).mono ?_
  rintro _ w3 ⟨rfl, rfl⟩
  go_wp2_with fail
  refine (digits_nat d1 _ hd).mono ?_
  rintro _ w3 ⟨rfl, rfl⟩
  go_wp2
  go_ret
  exact ⟨rfl, hb1.trans (hb2.mono hb1.size)⟩

theorem int_beq_true {a b : Nat} (h : a = b) : ((a : Int) == (b : Int)) = true := by rw [beq_iff_eq, h]
theorem int_beq_false {a b : Nat} (h : a ≠ b) : ((a : Int) == (b : Int)) = false := by rw [beq_eq_false_iff_ne]; omega

set_option maxHeartbeats 3200000 in
theorem dist_tt (e1 d1 e2 d2 : Nat) (he1 : e1 < 18446744073709551616) (hd1 : d1 < 18446744073709551616) (he2 : e2 < 18446744073709551616) (hd2 : d2 < 18446744073709551616) (w : World) (htab : Lib.TabIs Tryd.prog w Tryd.powName .u64 Lib.pow10Tab) :
    Calls Tryd.prog 4 #[.bool true, .int .u64 e1, .int .u64 d1, .bool true, .int .u64 e2, .int .u64 d2] w fun r w' => r = .returned (.bool true) ∧ Below w.heap.size w w' := by
  obtain ⟨S, T, hS, hT, hsz, hbq⟩ : ∃ S T : ByteArray, Hid (S = ⟨(text e1 d1).toArray⟩) ∧ Hid (T = ⟨(text e2 d2).toArray⟩) ∧ (((S.size : Int) == (Lib.nDigits e1 : Int) + (Lib.nDigits d1 : Int) + 1) = true) ∧ Hid ((S.toList == T.toList) = decide (e1 = e2 ∧ d1 = d2)) :=
    ⟨_, _, rfl, rfl, by rw [text_size, beq_iff_eq]; omega, text_beq e1 d1 e2 d2⟩
  have hn1 := Lib.nDigits_le20 e1 he1
  have hn2 := Lib.nDigits_le20 d1 hd1
  rcases (show (e1 = e2 ∧ d1 = d2) ∨ (e1 = e2 ∧ d1 ≠ d2) ∨ e1 ≠ e2 from by omega) with ⟨h1, h2⟩ | ⟨h1, h2⟩ | h1
  · have q1 := int_beq_true h1
    have q2 := int_beq_true h2
    have q3 : (S.toList == T.toList) = true := by rw [hbq.out]; exact decide_eq_true ⟨h1, h2⟩
    clear h1 h2
    go_enter Tryd.func4, Tryd.ntmps4
    go_wp2_with fail
    refine (client_some e1 d1 _).mono ?_
    rintro _ w1 ⟨rfl, rfl⟩
    go_wp2_with fail
    refine (ready_some e1 d1 he1 hd1 w htab).mono ?_
    rintro _ w1 ⟨rfl, hb1, ht1⟩
    rw [← hS.out]
    go_wp2_with fail
    refine (client_some e2 d2 _).mono ?_
    rintro _ w2 ⟨rfl, rfl⟩
    go_wp2_with fail
    refine (ready_some e2 d2 he2 hd2 w1 ht1).mono ?_
    rintro _ w2 ⟨rfl, hb2, ht2⟩
    rw [← hT.out]
    go_wp2_with fail
    refine (digits_nat e1 _ he1).mono ?_
    rintro _ w3 ⟨rfl, rfl⟩
    go_wp2_with fail
    refine (digits_nat d1 _ hd1).mono ?_
    rintro _ w3 ⟨rfl, rfl⟩
    go_wp2
    go_ret
    exact ⟨rfl, hb1.trans (hb2.mono hb1.size)⟩
  · have q1 := int_beq_true h1
    have q2 := int_beq_false h2
    have q3 : (S.toList == T.toList) = false := by rw [hbq.out]; exact decide_eq_false (fun h => h2 h.2)
    clear h1 h2
    go_enter Tryd.func4, Tryd.ntmps4
    go_wp2_with fail
    refine (client_some e1 d1 _).mono ?_
    rintro _ w1 ⟨rfl, rfl⟩
    go_wp2_with fail
    refine (ready_some e1 d1 he1 hd1 w htab).mono ?_
    rintro _ w1 ⟨rfl, hb1, ht1⟩
    rw [← hS.out]
    go_wp2_with fail
    refine (client_some e2 d2 _).mono ?_
    rintro _ w2 ⟨rfl, rfl⟩
    go_wp2_with fail
    refine (ready_some e2 d2 he2 hd2 w1 ht1).mono ?_
    rintro _ w2 ⟨rfl, hb2, ht2⟩
    rw [← hT.out]
    go_wp2_with fail
    refine (digits_nat e1 _ he1).mono ?_
    rintro _ w3 ⟨rfl, rfl⟩
    go_wp2_with fail
    refine (digits_nat d1 _ hd1).mono ?_
    rintro _ w3 ⟨rfl, rfl⟩
    go_wp2
    go_ret
    exact ⟨rfl, hb1.trans (hb2.mono hb1.size)⟩
  · have q1 := int_beq_false h1
    have q3 : (S.toList == T.toList) = false := by rw [hbq.out]; exact decide_eq_false (fun h => h1 h.1)
    clear h1
    go_enter Tryd.func4, Tryd.ntmps4
    go_wp2_with fail
    refine (client_some e1 d1 _).mono ?_
    rintro _ w1 ⟨rfl, rfl⟩
    go_wp2_with fail
    refine (ready_some e1 d1 he1 hd1 w htab).mono ?_
    rintro _ w1 ⟨rfl, hb1, ht1⟩
    rw [← hS.out]
    go_wp2_with fail
    refine (client_some e2 d2 _).mono ?_
    rintro _ w2 ⟨rfl, rfl⟩
    go_wp2_with fail
    refine (ready_some e2 d2 he2 hd2 w1 ht1).mono ?_
    rintro _ w2 ⟨rfl, hb2, ht2⟩
    rw [← hT.out]
    go_wp2_with fail
    refine (digits_nat e1 _ he1).mono ?_
    rintro _ w3 ⟨rfl, rfl⟩
    go_wp2_with fail
    refine (digits_nat d1 _ hd1).mono ?_
    rintro _ w3 ⟨rfl, rfl⟩
    go_wp2
    go_ret
    exact ⟨rfl, hb1.trans (hb2.mono hb1.size)⟩
end Go.Proofs.Qxb6629309aDoor
