/-
  Seat b6629309aD: the walks of (*Client).Session and zzClient.
-/
import Derived.Test.Qxb6629309aDoorText
import Derived.Test.Qxb6629309aDoorWalks
import Derived.Test.Qxb6629309aDoorLocks
import Derived.Conc.MuLone
import Derived.Defers
import Derived.Recover
import Derived.WalkKit
import Derived.ProofKit
import Derived.WalkSpells
import Derived.WalkSmall
import Derived.Outline
namespace Go.Proofs.Qxb6629309aDoor
open Go.ChangeShapes Go.WideShapes Go.ChangeAt Go.RowKit
open Plain
open Go.MuLone

theorem lt_of_cell {w : World} {b o : Nat} {v : Value} (h : w.cell? ⟨b, o, none⟩ = some v) : b < w.heap.size := by
  rcases Nat.lt_or_ge b w.heap.size with h' | h'
  · exact h'
  · simp [World.cell?, Array.getElem?_eq_none h'] at h

set_option maxHeartbeats 1600000 in
theorem session_none (cb : Nat) (w : World) (c1 : w.cell? ⟨cb, 1, none⟩ = some (.pointer none)) :
    Calls Tryd.prog 6 #[.pointer (some ⟨cb, 0, none⟩)] w fun r w' => r = .returned (.string ⟨#[]⟩) ∧ w = w' := by
  go_enter_defers Tryd.func6, Tryd.ntmps6
  go_wp2_with fail
  exact ⟨_, results_tmp rfl _ _ _, rfl, rfl⟩

set_option maxHeartbeats 1600000 in
theorem session_some (cb sb : Nat) (e d : Nat) (he : e < 18446744073709551616) (hd : d < 18446744073709551616) (w : World)
    (c1 : w.cell? ⟨cb, 1, none⟩ = some (.pointer (some ⟨sb, 0, none⟩)))
    (s0 : w.cell? ⟨sb, 0, none⟩ = some (.int .i32 0)) (f0 : w.frozen? ⟨sb, 0, none⟩ = false)
    (s2 : w.cell? ⟨sb, 2, none⟩ = some (.int .u64 e)) (s3 : w.cell? ⟨sb, 3, none⟩ = some (.int .u64 d))
    (htab : Lib.TabIs Tryd.prog (w.setCell ⟨sb, 0, none⟩ (.int .i32 1)) Tryd.powName .u64 Lib.pow10Tab) :
    Calls Tryd.prog 6 #[.pointer (some ⟨cb, 0, none⟩)] w fun r w' => r = .returned (.string ⟨(text e d).toArray⟩) ∧ ∀ B, B ≤ sb → Below B w w' := by
  go_enter_defers Tryd.func6, Tryd.ntmps6
  go_wp2_with (go_at_call 12; refine (lock_free Tryd.muLib ⟨sb, 0, none⟩ _ s0 f0).mono ?_; rintro _ w' ⟨rfl, rfl⟩)
  have hsz : sb < w.heap.size := lt_of_cell s0
  have hs1 : (w.setCell ⟨sb, 0, none⟩ (.int .i32 1)).cell? ⟨sb, 0, none⟩ = some (.int .i32 1) := World.cell?_setCell_same w ⟨sb, 0, none⟩ (.int .i32 1) s0
  have hf1 : (w.setCell ⟨sb, 0, none⟩ (.int .i32 1)).frozen? ⟨sb, 0, none⟩ = false := by simp [f0]
  refine (string_any e d he hd _ htab).mono ?_
  rintro _ w1 ⟨rfl, hb1⟩
  have hz1 : (w.setCell ⟨sb, 0, none⟩ (.int .i32 1)).heap.size = w.heap.size := by simp
  rw [hz1] at hb1
  have g0 : w1.cell? ⟨sb, 0, none⟩ = some (.int .i32 1) := (hb1.cell (p := ⟨sb, 0, none⟩) hsz).trans hs1
  have k0 : w1.frozen? ⟨sb, 0, none⟩ = false := (hb1.frozen (p := ⟨sb, 0, none⟩) hsz).trans hf1
  have HB : Hid (∀ B, B ≤ sb → Below B w (w1.setCell ⟨sb, 0, none⟩ (.int .i32 0))) := fun B hB =>
    ((((Below.refl B w).setCell (p := ⟨sb, 0, none⟩) hB (.int .i32 1)).trans (hb1.mono (by omega))).setCell (p := ⟨sb, 0, none⟩) hB (.int .i32 0))
  clear hs1 hf1 hz1 hb1
  go_wp2_with fail
  refine leaves_cons (f := 13) (args := #[.pointer (some ⟨sb, 0, none⟩)]) (by simp) (by simp [go_sem]) ?_
  refine (unlock_deferred Tryd.muLib ⟨sb, 0, none⟩ .returning _ g0 k0).mono ?_
  rintro _ u' w'' ⟨rfl, rfl, rfl⟩
  exact ⟨_, results_tmp rfl _ _ _, rfl, HB.out⟩

set_option maxHeartbeats 1600000 in
/-- zzClient(true, e, d): two new blocks. -/
theorem client_some (e d : Nat) (w : World) :
    Calls Tryd.prog 5 #[.bool true, .int .u64 e, .int .u64 d] w fun r w' => r = .returned (.pointer (some ⟨w.heap.size + 1, 0, none⟩)) ∧
      (w.alloc (.cells #[.int .i32 0, .int .u32 0, .int .u64 e, .int .u64 d] 48)).alloc (.cells #[.string ⟨#[]⟩, .pointer (some ⟨w.heap.size, 0, none⟩), .bool false, .bool false] 37) = w' := by
  go_enter Tryd.func5, Tryd.ntmps5
  go_wp2
  go_ret
  exact ⟨rfl, rfl⟩

set_option maxHeartbeats 1600000 in
theorem client_none (e d : Nat) (w : World) :
    Calls Tryd.prog 5 #[.bool false, .int .u64 e, .int .u64 d] w fun r w' => r = .returned (.pointer (some ⟨w.heap.size, 0, none⟩)) ∧
      w.alloc (.cells #[.string ⟨#[]⟩, .pointer none, .bool false, .bool false] 37) = w' := by
  go_enter Tryd.func5, Tryd.ntmps5
  go_wp2
  go_ret
  exact ⟨rfl, rfl⟩

/-- Session on the client that zzClient(true, e, d) has just made. -/
theorem ready_some (e d : Nat) (he : e < 18446744073709551616) (hd : d < 18446744073709551616) (w : World) (htab : Lib.TabIs Tryd.prog w Tryd.powName .u64 Lib.pow10Tab) :
    Calls Tryd.prog 6 #[.pointer (some ⟨w.heap.size + 1, 0, none⟩)] ((w.alloc (.cells #[.int .i32 0, .int .u32 0, .int .u64 e, .int .u64 d] 48)).alloc (.cells #[.string ⟨#[]⟩, .pointer (some ⟨w.heap.size, 0, none⟩), .bool false, .bool false] 37))
      fun r w' => r = .returned (.string ⟨(text e d).toArray⟩) ∧ Below w.heap.size w w' ∧ Lib.TabIs Tryd.prog w' Tryd.powName .u64 Lib.pow10Tab := by
  have h1 : ∀ (cs : Array Value) (t : TypeId), (w.alloc (.cells cs t)).heap.size = w.heap.size + 1 := fun cs t => by simp
  have hW : Below w.heap.size w ((w.alloc (.cells #[.int .i32 0, .int .u32 0, .int .u64 e, .int .u64 d] 48)).alloc (.cells #[.string ⟨#[]⟩, .pointer (some ⟨w.heap.size, 0, none⟩), .bool false, .bool false] 37)) :=
    ((Below.refl _ _).alloc (Nat.le_refl _) _).alloc (by rw [h1]; omega) _
  refine (session_some (w.heap.size + 1) w.heap.size e d he hd _ ?_ ?_ ?_ ?_ ?_ ?_).mono ?_
  · rw [← h1 #[.int .i32 0, .int .u32 0, .int .u64 e, .int .u64 d] 48, World.cell?_alloc_new]; rfl
  · rw [World.cell?_alloc_past _ _ _ (by rw [h1]; omega), World.cell?_alloc_new]; rfl
  · rw [World.frozen?_alloc_past _ _ _ (by rw [h1]; omega)]; exact World.frozen?_alloc_new _ _ _ _
  · rw [World.cell?_alloc_past _ _ _ (by rw [h1]; omega), World.cell?_alloc_new]; rfl
  · rw [World.cell?_alloc_past _ _ _ (by rw [h1]; omega), World.cell?_alloc_new]; rfl
  · exact tabIs_below (hW.setCell (p := ⟨w.heap.size, 0, none⟩) (Nat.le_refl _) _) htab
  · rintro r w' ⟨hr, hb⟩
    have hb' := hW.trans (hb w.heap.size (Nat.le_refl _))
    exact ⟨hr, hb', tabIs_below hb' htab⟩

theorem ready_none (w : World) (htab : Lib.TabIs Tryd.prog w Tryd.powName .u64 Lib.pow10Tab) :
    Calls Tryd.prog 6 #[.pointer (some ⟨w.heap.size, 0, none⟩)] (w.alloc (.cells #[.string ⟨#[]⟩, .pointer none, .bool false, .bool false] 37))
      fun r w' => r = .returned (.string ⟨#[]⟩) ∧ Below w.heap.size w w' ∧ Lib.TabIs Tryd.prog w' Tryd.powName .u64 Lib.pow10Tab := by
  refine (session_none w.heap.size _ ?_).mono ?_
  · rw [World.cell?_alloc_new]; rfl
  · rintro r w' ⟨hr, rfl⟩
    have hb : Below w.heap.size w (w.alloc (.cells #[.string ⟨#[]⟩, .pointer none, .bool false, .bool false] 37)) := (Below.refl _ _).alloc (Nat.le_refl _) _
    exact ⟨hr, hb, tabIs_below hb htab⟩
end Go.Proofs.Qxb6629309aDoor
