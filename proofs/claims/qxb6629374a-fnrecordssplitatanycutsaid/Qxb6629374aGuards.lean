/-
  Seat b6629374a: the walks of the size guards.
-/
import Derived.Test.Qxb6629374aRows
import Derived.WalkKit
import Derived.ProofKit
import Derived.WalkSpells
import Derived.WalkSmall
import Derived.Outline
namespace Go.Proofs.Qxb6629374a
open Go.ChangeShapes Go.WideShapes Go.ChangeAt Go.RowKit

theorem hide {p : Prop} (h : p) : Hid p := h
theorem unhide {p : Prop} (h : Hid p) : p := h

/-- One line: four texts and the mark. -/
structure Ln where
  r : ByteArray
  s : ByteArray
  v : ByteArray
  l : ByteArray
  b : Bool

/-- The five cells of each of the first n lines lie at the address on. -/
def LinesAt (w : World) (b off n : Nat) (L : Nat → Ln) : Prop :=
  ∀ k, k < n → w.cell? ⟨b, off + k * 5, none⟩ = some (.string (L k).r) ∧ w.cell? ⟨b, off + k * 5 + 1, none⟩ = some (.string (L k).s) ∧ w.cell? ⟨b, off + k * 5 + 2, none⟩ = some (.string (L k).v) ∧
    w.cell? ⟨b, off + k * 5 + 3, none⟩ = some (.string (L k).l) ∧ w.cell? ⟨b, off + k * 5 + 4, none⟩ = some (.bool (L k).b)

/-- It returned a bool; 'false' only of at most 65536 lines. -/
def BigB (n : Nat) (e : Ending) : Prop := ∃ x, e = .returned (.bool x) ∧ (x = false → n ≤ 65536)
/-- It returned a bool. -/
def IsB (e : Ending) : Prop := ∃ x, e = .returned (.bool x)

set_option maxRecDepth 100000 in
set_option maxHeartbeats 800000 in
theorem bytes5 (b off n c : Nat) (i : Int) (L : Nat → Ln) (w : World) (hn : n ≤ maxLen) (hL : LinesAt w b off n L) :
    Calls Try.prog 5 #[.slice (some ⟨b, off, none⟩) n c, .int .i64 i] w fun e w' => IsB e ∧ w = w' := by
  unfold maxLen at hn
  by_cases h0 : n ≤ 1048576
  · go_enter Try.func5, Try.ntmps5
    go_wp2
    go_loop [5, 6] (fun z kk => ∃ (k : Nat) (t : Int), k ≤ n ∧ kk = .int .i64 k ∧ z = .int .i64 t ∧ 0 ≤ t ∧ t ≤ 1048576) (fun _ kk => n - (intOf kk).toNat)
    case atStart => exact ⟨0, n, Nat.zero_le _, rfl, rfl, by omega, by omega⟩
    case round =>
      obtain ⟨k, t, hk, rfl, rfl, ht0, ht1⟩ := hrel
      by_cases hlt : k < n
      · obtain ⟨c0, c1, c2, c3, c4⟩ := hL k hlt
        generalize L k = x at c0 c1 c2 c3 c4
        obtain ⟨r, s, v, l, bb⟩ := x
        go_wp2
        all_goals first
          | (go_ret; exact ⟨⟨_, rfl⟩, rfl⟩)
          | (go_round
             case rel => exact ⟨k + 1, _, by omega, by go_num, rfl, by omega, by omega⟩
             case measure => simp [intOf]; omega)
      · go_wp2
        go_ret
        exact ⟨⟨_, rfl⟩, rfl⟩
  · go_enter Try.func5, Try.ntmps5
    go_wp2
    go_ret
    exact ⟨⟨_, rfl⟩, rfl⟩
set_option maxHeartbeats 400000 in
theorem bytes5_0 (a : Option Addr) (c : Nat) (i : Int) (w : World) :
    Calls Try.prog 5 #[.slice a 0 c, .int .i64 i] w fun e w' => IsB e ∧ w = w' := by
  go_enter Try.func5, Try.ntmps5
  go_wp2
  go_loop [6] (fun kk => kk = .int .i64 0) (fun _ => 0)
  case atStart => exact rfl
  case round =>
    obtain rfl := hrel
    go_wp2
    go_ret
    exact ⟨⟨_, rfl⟩, rfl⟩

set_option maxRecDepth 100000 in
set_option maxHeartbeats 800000 in
theorem bytes11 (b off n c : Nat) (i : Int) (L : Nat → Ln) (w : World) (hn : n ≤ maxLen) (hL : LinesAt w b off n L) :
    Calls Try.prog 11 #[.slice (some ⟨b, off, none⟩) n c, .int .i64 i] w fun e w' => IsB e ∧ w = w' := by
  unfold maxLen at hn
  by_cases h0 : n ≤ 1048576
  · go_enter Try.func11, Try.ntmps11
    go_wp2
    go_loop [5, 6] (fun z kk => ∃ (k : Nat) (t : Int), k ≤ n ∧ kk = .int .i64 k ∧ z = .int .i64 t ∧ 0 ≤ t ∧ t ≤ 1048576) (fun _ kk => n - (intOf kk).toNat)
    case atStart => exact ⟨0, n, Nat.zero_le _, rfl, rfl, by omega, by omega⟩
    case round =>
      obtain ⟨k, t, hk, rfl, rfl, ht0, ht1⟩ := hrel
      by_cases hlt : k < n
      · obtain ⟨c0, c1, c2, c3, c4⟩ := hL k hlt
        generalize L k = x at c0 c1 c2 c3 c4
        obtain ⟨r, s, v, l, bb⟩ := x
        go_wp2
        all_goals first
          | (go_ret; exact ⟨⟨_, rfl⟩, rfl⟩)
          | (go_round
             case rel => exact ⟨k + 1, _, by omega, by go_num, rfl, by omega, by omega⟩
             case measure => simp [intOf]; omega)
      · go_wp2
        go_ret
        exact ⟨⟨_, rfl⟩, rfl⟩
  · go_enter Try.func11, Try.ntmps11
    go_wp2
    go_ret
    exact ⟨⟨_, rfl⟩, rfl⟩
set_option maxHeartbeats 400000 in
theorem bytes11_0 (a : Option Addr) (c : Nat) (i : Int) (w : World) :
    Calls Try.prog 11 #[.slice a 0 c, .int .i64 i] w fun e w' => IsB e ∧ w = w' := by
  go_enter Try.func11, Try.ntmps11
  go_wp2
  go_loop [6] (fun kk => kk = .int .i64 0) (fun _ => 0)
  case atStart => exact rfl
  case round =>
    obtain rfl := hrel
    go_wp2
    go_ret
    exact ⟨⟨_, rfl⟩, rfl⟩

set_option maxRecDepth 100000 in
set_option maxHeartbeats 1600000 in
/-- linesTooBig: it answers; where it says no there are at most 65536 lines. -/
theorem tooBig (b off n c : Nat) (L : Nat → Ln) (w : World) (hn : n ≤ maxLen) (hb : b < w.heap.size) (hL : LinesAt w b off n L) :
    Calls Try.prog 6 #[.slice (some ⟨b, off, none⟩) n c] w fun e w' => BigB n e ∧ Below w.heap.size w w' := by
  unfold maxLen at hn
  by_cases h0 : n ≤ 65536
  · go_enter Try.func6, Try.ntmps6
    go_wp2
    go_loopw [3, 4] (fun z kk wr => ∃ (k : Nat) (t : Int), k ≤ n ∧ kk = .int .i64 k ∧ z = .int .i64 t ∧ 0 ≤ t ∧ t ≤ 1048576 ∧ Below w.heap.size w wr) (fun _ kk _ => n - (intOf kk).toNat)
    case atStart => exact ⟨0, 0, Nat.zero_le _, rfl, rfl, by omega, by omega, Below.refl _ _⟩
    case round =>
      obtain ⟨k, t, hk, rfl, rfl, ht0, ht1, hnx⟩ := hrel
      by_cases hlt : k < n
      · obtain ⟨c0, c1, c2, c3, c4⟩ := hL k hlt
        generalize L k = x at c0 c1 c2 c3 c4
        obtain ⟨r, s, v, l, bb⟩ := x
        rw [← hnx.cell (p := ⟨b, _, none⟩) hb] at c0 c1 c2 c3 c4
        go_wp2
        all_goals first
          | (go_ret; exact ⟨⟨_, rfl, fun _ => h0⟩, hnx.alloc hnx.size _⟩)
          | (go_roundw
             case rel => exact ⟨k + 1, _, by omega, by go_num, rfl, by omega, by omega, hnx.alloc hnx.size _⟩
             case measure => simp [intOf]; omega)
      · go_wp2
        go_ret
        exact ⟨⟨_, rfl, fun _ => h0⟩, hnx⟩
  · go_enter Try.func6, Try.ntmps6
    go_wp2
    go_ret
    exact ⟨⟨_, rfl, fun h => by cases h⟩, Below.refl _ _⟩
set_option maxHeartbeats 400000 in
theorem tooBig_0 (a : Option Addr) (c : Nat) (w : World) :
    Calls Try.prog 6 #[.slice a 0 c] w fun e w' => BigB 0 e ∧ Below w.heap.size w w' := by
  go_enter Try.func6, Try.ntmps6
  go_wp2
  go_loop [4] (fun kk => kk = .int .i64 0) (fun _ => 0)
  case atStart => exact rfl
  case round =>
    obtain rfl := hrel
    go_wp2
    go_ret
    exact ⟨⟨_, rfl, fun _ => by omega⟩, Below.refl _ _⟩
end Go.Proofs.Qxb6629374a
