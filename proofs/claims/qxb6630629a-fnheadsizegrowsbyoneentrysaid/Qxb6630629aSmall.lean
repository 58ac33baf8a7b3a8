/-
  Seat b6630629a: the walks of the small pure functions.
-/
import Derived.Test.Qxb6630629aRows
import Derived.Test.Qxb6630629aPlain
import Derived.WalkKit
import Derived.ProofKit
import Derived.WalkSpells
import Derived.WalkSmall
import Derived.Outline
namespace Go.Proofs.Qxb6630629a
open Go.ChangeShapes Go.WideShapes Go.ChangeAt Go.RowKit Plain

theorem hide {p : Prop} (h : p) : Hid p := h
theorem unhide {p : Prop} (h : Hid p) : p := h

set_option maxRecDepth 100000 in
set_option maxHeartbeats 800000 in
/-- uvarintSize. -/
theorem uv16 (x : Nat) (hx : x < 18446744073709551616) (w : World) :
    Calls Try.prog 16 #[.int .u64 (x : Int)] w fun e w' => e = .returned (.int .i64 (uv x : Nat)) ∧ w = w' := by
  go_enter Try.func16, Try.ntmps16
  go_wp2
  go_loop [0, 3] (fun z kk => ∃ (y m : Nat), y < 18446744073709551616 ∧ z = .int .u64 (y : Int) ∧ kk = .int .i64 (m : Int) ∧ m + uv y = uv x + 1) (fun z _ => (intOf z).toNat)
  case atStart => exact ⟨x, 1, hx, rfl, rfl, by omega⟩
  case round =>
    obtain ⟨y, m, hy, rfl, rfl, hs⟩ := hrel
    have hub := uv_le x hx
    have hup := uv_pos y
    by_cases hlt : y < 128
    · have hd := uv_small hlt
      obtain rfl : m = uv x := by omega
      clear hd hs hup
      go_wp2
      go_ret
      exact ⟨rfl, rfl⟩
    · have hd := hide (uv_big hlt)
      have hm : m ≤ 10 := by omega
      have hs := hide hs
      clear hub hup
      go_wp2
      go_round
      case rel => exact ⟨y / 128, m + 1, by omega, by go_num, by go_num, by have := hd.out; have := hs.out; omega⟩
      case measure => simp [intOf]; omega

set_option maxRecDepth 100000 in
set_option maxHeartbeats 800000 in
/-- zzVarintLen. -/
theorem uv10 (x : Nat) (hx : x < 18446744073709551616) (w : World) :
    Calls Try.prog 10 #[.int .u64 (x : Int)] w fun e w' => e = .returned (.int .i64 (uv x : Nat)) ∧ w = w' := by
  go_enter Try.func10, Try.ntmps10
  go_wp2
  go_loop [0, 3] (fun z kk => ∃ (y m : Nat), y < 18446744073709551616 ∧ z = .int .u64 (y : Int) ∧ kk = .int .i64 (m : Int) ∧ m + bl y = bl x) (fun z _ => (intOf z).toNat)
  case atStart => exact ⟨x, 0, hx, rfl, rfl, by omega⟩
  case round =>
    obtain ⟨y, m, hy, rfl, rfl, hs⟩ := hrel
    have hub := bl_le 64 x hx
    by_cases h0 : y = 0
    · subst h0
      rw [bl_zero] at hs
      have hu := uv_bl x
      by_cases hx0 : x = 0
      · subst hx0
        rw [bl_zero] at hs
        rw [if_pos rfl] at hu
        obtain rfl : m = 0 := by omega
        have HU := hide hu
        clear hu hs hub hy hx
        go_wp2
        go_ret
        exact ⟨by rw [HU.out]; rfl, rfl⟩
      · rw [if_neg hx0] at hu
        have hb := bl_pos hx0
        have h1 : 1 ≤ m ∧ m ≤ 64 := by omega
        have HU : Hid (uv x = (m + 6) / 7) := hide (by omega)
        clear hu hs hy hb hub
        go_wp2
        go_ret
        exact ⟨by rw [HU.out]; go_num, rfl⟩
    · have hd := hide (bl_pos h0)
      have hm : m ≤ 64 := by omega
      have hs := hide hs
      clear hub
      go_wp2
      go_round
      case rel => exact ⟨y / 2, m + 1, by omega, by go_num, by go_num, by have := hd.out; have := hs.out; omega⟩
      case measure => simp [intOf]; omega

/-- A length, seen as a uint64. -/
def u64n (n : Nat) : Nat := n % 18446744073709551616
theorem u64n_lt (n : Nat) : u64n n < 18446744073709551616 := Nat.mod_lt _ (by omega)
theorem u64n_small {n : Nat} (h : n < 18446744073709551616) : u64n n = n := Nat.mod_eq_of_lt h
theorem u64n_eq (n : Nat) : (IntKind.u64.wrap (n : Int)) = ((u64n n : Nat) : Int) := by
  rw [IntKind.wrap_u64]; simp [u64n]
/-- A field's bytes: its length's varint and the bytes themselves. -/
def fs (n : Nat) : Nat := uv (u64n n) + n

set_option maxRecDepth 100000 in
set_option maxHeartbeats 800000 in
theorem fs18 (n : Nat) (w : World) :
    Calls Try.prog 18 #[.int .i64 (n : Int)] w fun e w' => e = .returned (.int .i64 (wrap64 (fs n : Nat))) ∧ w = w' := by
  go_enter Try.func18, Try.ntmps18
  go_wp2_with fail
  rw [u64n_eq]
  refine (uv16 _ (u64n_lt n) w).mono ?_
  rintro _ w' ⟨rfl, rfl⟩
  go_wp2_with fail
  go_ret
  exact ⟨by simp [fs], rfl⟩

theorem wrap_range (x : Int) : 0 ≤ IntKind.u64.wrap x ∧ IntKind.u64.wrap x < 18446744073709551616 := by
  rw [IntKind.wrap_u64]; omega
/-- The zigzag of n. -/
def zz (n : Int) : Nat := (bits BinOp.xor IntKind.u64 (IntKind.u64.wrap (wrap64 (n * 2))) (IntKind.u64.wrap (n / 9223372036854775808))).toNat
theorem zz_lt (n : Int) : zz n < 18446744073709551616 := by
  unfold zz bits
  have := wrap_range
  dsimp only
  rw [Int.toNat_lt (this _).1]
  exact (this _).2
set_option maxRecDepth 100000 in
set_option maxHeartbeats 800000 in
theorem zz17 (n : Int) (w : World) :
    Calls Try.prog 17 #[.int .i64 (n : Int)] w fun e w' => e = .returned (.int .u64 (zz n : Nat)) ∧ w = w' := by
  go_enter Try.func17, Try.ntmps17
  go_wp2_with fail
  go_ret
  refine ⟨?_, rfl⟩
  have h : ((zz n : Nat) : Int) = bits BinOp.xor IntKind.u64 (IntKind.u64.wrap (wrap64 (n * 2))) (IntKind.u64.wrap (n / 9223372036854775808)) := by
    unfold zz
    exact Int.toNat_of_nonneg (by unfold bits; exact (wrap_range _).1)
  rw [h]
  rfl

set_option maxRecDepth 100000 in
set_option maxHeartbeats 800000 in
theorem ms20 (n : Int) (w : World) :
    Calls Try.prog 20 #[.int .i64 (n : Int)] w fun e w' => e = .returned (.int .i64 (wrap64 (n.tdiv 1000000))) ∧ w = w' := by
  go_enter Try.func20, Try.ntmps20
  go_wp2_with fail
  go_ret
  exact ⟨rfl, rfl⟩

/-- A lease's life in whole milliseconds, none below zero. -/
def tm (n : Int) : Nat := (wrap64 (n.tdiv 1000000)).toNat
theorem tm_lt (n : Int) : tm n < 18446744073709551616 := by unfold tm wrap64; omega
theorem tm_eq (n : Int) (h : 0 ≤ wrap64 (n.tdiv 1000000)) : IntKind.u64.wrap (wrap64 (n.tdiv 1000000)) = ((tm n : Nat) : Int) := by
  rw [IntKind.wrap_u64]; unfold tm; unfold wrap64 at *; omega
theorem tm_neg (n : Int) (h : wrap64 (n.tdiv 1000000) < 0) : IntKind.u64.wrap 0 = ((tm n : Nat) : Int) := by
  rw [IntKind.wrap_u64]; unfold tm; omega

set_option maxRecDepth 100000 in
set_option maxHeartbeats 800000 in
theorem ttl19 (n : Int) (w : World) :
    Calls Try.prog 19 #[.int .i64 (n : Int)] w fun e w' => e = .returned (.int .u64 (tm n : Nat)) ∧ w = w' := by
  have h1 := hide (tm_eq n)
  have h2 := hide (tm_neg n)
  go_enter Try.func19, Try.ntmps19
  go_wp2_with fail
  refine (ms20 n w).mono ?_
  rintro _ w' ⟨rfl, rfl⟩
  go_wp2_with fail
  · go_ret
    exact ⟨by rw [← h2.out h]; rfl, rfl⟩
  · go_ret
    exact ⟨by rw [← h1.out h]; rfl, rfl⟩

set_option maxRecDepth 100000 in
set_option maxHeartbeats 800000 in
theorem fs9 (n : Nat) (w : World) :
    Calls Try.prog 9 #[.int .i64 (n : Int)] w fun e w' => e = .returned (.int .i64 (wrap64 (fs n : Nat))) ∧ w = w' := by
  go_enter Try.func9, Try.ntmps9
  go_wp2_with fail
  rw [u64n_eq]
  refine (uv10 _ (u64n_lt n) w).mono ?_
  rintro _ w' ⟨rfl, rfl⟩
  go_wp2_with fail
  go_ret
  exact ⟨by simp [fs], rfl⟩

theorem wrap_add_l (a b : Int) : wrap64 (wrap64 a + b) = wrap64 (a + b) := by unfold wrap64; omega
theorem wrap_add_r (a b : Int) : wrap64 (a + wrap64 b) = wrap64 (a + b) := by unfold wrap64; omega
theorem wrap_sub_l (a b : Int) : wrap64 (wrap64 a - b) = wrap64 (a - b) := by unfold wrap64; omega
theorem wrap_sub_r (a b : Int) : wrap64 (a - wrap64 b) = wrap64 (a - b) := by unfold wrap64; omega
theorem wrap_wrap (a : Int) : wrap64 (wrap64 a) = wrap64 a := by unfold wrap64; omega

/-- It returned an int. -/
def IsI (e : Ending) : Prop := ∃ x, e = .returned (.int .i64 x)
set_option maxRecDepth 100000 in
set_option maxHeartbeats 800000 in
theorem add12 (x y : Int) (w : World) :
    Calls Try.prog 12 #[.int .i64 x, .int .i64 y] w fun e w' => IsI e ∧ w = w' := by
  go_enter Try.func12, Try.ntmps12
  go_wp2_with fail
  all_goals go_ret
  all_goals exact ⟨⟨_, rfl⟩, rfl⟩
end Go.Proofs.Qxb6630629a
