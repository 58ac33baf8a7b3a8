/-
  Seat b6629374a: the walks of sameRow, isHeader, readsBack.
-/
import Derived.Test.Qxb6629374aMore
namespace Go.Proofs.Qxb6629374a
open Go.ChangeShapes Go.WideShapes Go.ChangeAt Go.RowKit

set_option maxHeartbeats 1600000 in
theorem same_ok (ra rb : Nat) (f : Nat → ByteArray) (w : World) (ha : ∀ c, c < 5 → w.cell? ⟨ra, c, none⟩ = some (.string (f c))) (hb : ∀ c, c < 5 → w.cell? ⟨rb, c, none⟩ = some (.string (f c))) :
    Calls Try.prog 10 #[.slice (some ⟨ra, 0, none⟩) 5 5, .slice (some ⟨rb, 0, none⟩) 5 5] w fun e w' => e = .returned (.bool true) ∧ ∃ n, w' = w.drewN n := by
  go_enter Try.func10, Try.ntmps10
  go_wp2
  go_loopw [5] (fun kk wr => ∃ (k m : Nat), k ≤ 5 ∧ kk = .int .i64 k ∧ wr = w.drewN m) (fun kk _ => 5 - (intOf kk).toNat)
  case atStart => exact ⟨0, 0, Nat.zero_le _, rfl, rfl⟩
  case round =>
    obtain ⟨k, m, hk, rfl, rfl⟩ := hrel
    by_cases hlt : k < 5
    · have ca := ha k hlt
      have cb := hb k hlt
      have hlt' : (k : Int) < 5 := by omega
      generalize f k = x at ca cb
      clear ha hb
      go_wp2
      go_quiet (fail)
      go_wp2
      go_roundw
      case rel => exact ⟨k + 1, _, by omega, by go_num, rfl⟩
      case measure => simp [intOf]; omega
    · go_wp2
      go_ret
      exact ⟨rfl, m, rfl⟩

set_option maxHeartbeats 1600000 in
theorem header_ok (ra : Nat) (w : World) (ha : ∀ c, c < 5 → w.cell? ⟨ra, c, none⟩ = some (.string (headT c))) :
    Calls Try.prog 12 #[.slice (some ⟨ra, 0, none⟩) 5 5] w fun e w' => e = .returned (.bool true) ∧ w = w' := by
  have c0 : w.cell? ⟨ra, 0, none⟩ = some (.string ⟨#[114, 117, 108, 101]⟩) := ha 0 (by omega)
  have c1 : w.cell? ⟨ra, 1, none⟩ = some (.string ⟨#[115, 117, 98, 106, 101, 99, 116]⟩) := ha 1 (by omega)
  have c2 : w.cell? ⟨ra, 2, none⟩ = some (.string ⟨#[118, 97, 108, 117, 101]⟩) := ha 2 (by omega)
  have c3 : w.cell? ⟨ra, 3, none⟩ = some (.string ⟨#[108, 105, 109, 105, 116]⟩) := ha 3 (by omega)
  have c4 : w.cell? ⟨ra, 4, none⟩ = some (.string ⟨#[114, 101, 115, 117, 108, 116]⟩) := ha 4 (by omega)
  clear ha
  go_enter Try.func12, Try.ntmps12
  go_wp2
  go_ret
  exact ⟨rfl, rfl⟩

set_option maxHeartbeats 3200000 in
theorem reads_ok (g b off n cap c : Nat) (rw : Nat → Nat) (L : Nat → Ln) (w : World) (hn : n ≤ 65536) (hb : b < w.heap.size) (hR : Recs w g (n + 1) rw (recT L)) (hL : LinesAt w b off n L) :
    Calls Try.prog 9 #[.slice (some ⟨g, 0, none⟩) (n + 1) cap, .slice (some ⟨b, off, none⟩) n c] w fun e w' => e = .returned (.bool true) ∧ Below w.heap.size w w' := by
  have hg0 := hR.1 0 (by omega)
  have hh := header_ok (rw 0) w (fun c hc => hR.2 0 (by omega) c hc)
  have hne : ((n : Int) + 1 != (n : Int) + 1) = false := by simp
  go_enter Try.func9, Try.ntmps9
  go_wp2_with (go_at_call 12; refine hh.mono ?_; rintro e w' ⟨rfl, rfl⟩)
  clear hh hg0
  go_loopw [5] (fun kk wr => ∃ k : Nat, k ≤ n ∧ kk = .int .i64 k ∧ Below w.heap.size w wr) (fun kk _ => n - (intOf kk).toNat)
  case atStart => exact ⟨0, Nat.zero_le _, rfl, Below.refl _ _⟩
  case round =>
    obtain ⟨k, hk, rfl, hnx⟩ := hrel
    by_cases hlt : k < n
    · obtain ⟨c0, c1, c2, c3, c4⟩ := hL k hlt
      have hgc := hR.1 (k + 1) (by omega)
      have hgl := lt_of_cell hgc
      have r0 := hR.2 (k + 1) (by omega) 0 (by omega)
      have r1 := hR.2 (k + 1) (by omega) 1 (by omega)
      have r2 := hR.2 (k + 1) (by omega) 2 (by omega)
      have r3 := hR.2 (k + 1) (by omega) 3 (by omega)
      have r4 := hR.2 (k + 1) (by omega) 4 (by omega)
      have hrl := lt_of_cell r0
      simp only [recT] at r0 r1 r2 r3 r4
      generalize L k = x at c0 c1 c2 c3 c4 r0 r1 r2 r3 r4
      obtain ⟨r, s, v, l, bb⟩ := x
      simp only [lineT] at r0 r1 r2 r3 r4
      generalize rw (k + 1) = q at *
      rw [← hnx.cell (p := ⟨b, _, none⟩) hb] at c0 c1 c2 c3 c4
      rw [← hnx.cell (p := ⟨q, _, none⟩) hrl] at r0 r1 r2 r3 r4
      rw [← hnx.cell (p := ⟨g, _, none⟩) hgl] at hgc
      have hsz := hnx.size
      have hql : q < wr.heap.size := by omega
      clear hR hL
      cases bb
      · simp only [Bool.false_eq_true, if_false] at r4
        have r4' : wr.cell? ⟨q, 4, none⟩ = some (.string ⟨#[111, 107]⟩) := r4
        clear r4
        go_wp2
        go_quiet (fail)
        go_wp2
        go_roundw
        case rel => exact ⟨k + 1, by omega, by go_num, below_drewN (hnx.alloc hnx.size _) _⟩
        case measure => simp [intOf]; omega
      · simp only [if_true] at r4
        have r4' : wr.cell? ⟨q, 4, none⟩ = some (.string ⟨#[98, 114, 101, 97, 99, 104]⟩) := r4
        clear r4
        go_wp2
        go_quiet (fail)
        go_wp2
        go_roundw
        case rel => exact ⟨k + 1, by omega, by go_num, below_drewN (hnx.alloc hnx.size _) _⟩
        case measure => simp [intOf]; omega
    · go_wp2
      go_ret
      exact ⟨rfl, hnx⟩

set_option maxHeartbeats 1600000 in
theorem reads_0 (ao : Option Addr) (g cap c : Nat) (rw : Nat → Nat) (L : Nat → Ln) (w : World) (hR : Recs w g (0 + 1) rw (recT L)) :
    Calls Try.prog 9 #[.slice (some ⟨g, 0, none⟩) (0 + 1) cap, .slice ao 0 c] w fun e w' => e = .returned (.bool true) ∧ Below w.heap.size w w' := by
  have hg0 := hR.1 0 (by omega)
  have hh := header_ok (rw 0) w (fun c hc => hR.2 0 (by omega) c hc)
  go_enter Try.func9, Try.ntmps9
  go_wp2_with (go_at_call 12; refine hh.mono ?_; rintro e w' ⟨rfl, rfl⟩)
  clear hh hg0
  go_loop [5] (fun kk => kk = .int .i64 0) (fun _ => 0)
  case atStart => exact rfl
  case round =>
    obtain rfl := hrel
    go_wp2
    go_ret
    exact ⟨rfl, Below.refl _ _⟩
end Go.Proofs.Qxb6629374a
