/-
  Seat b6629374a: the contracts in the form that the laws take.
-/
import Derived.Test.Qxb6629374aRecords
import Derived.RegionTactic
import Derived.Deep.QuietTactic
import Derived.BigQuiet
namespace Go.Proofs.Qxb6629374a
open Go.ChangeShapes Go.WideShapes Go.ChangeAt Go.RowKit

/-- m records of five texts each, the slice at the head of block g. -/
def Recs (w : World) (g m : Nat) (rw : Nat → Nat) (tx : Nat → Nat → ByteArray) : Prop :=
  (∀ j, j < m → w.cell? ⟨g, j, none⟩ = some (.slice (some ⟨rw j, 0, none⟩) 5 5)) ∧ ∀ j, j < m → ∀ c, c < 5 → w.cell? ⟨rw j, c, none⟩ = some (.string (tx j c))

theorem lt_of_cell {w : World} {b o : Nat} {v : Value} (h : w.cell? ⟨b, o, none⟩ = some v) : b < w.heap.size := by
  rcases Nat.lt_or_ge b w.heap.size with h' | h'
  · exact h'
  · simp [World.cell?, Array.getElem?_eq_none h'] at h

theorem Recs.below {w w' : World} {g m : Nat} {rw : Nat → Nat} {tx : Nat → Nat → ByteArray} (h : Recs w g m rw tx) (hb : Below w.heap.size w w') : Recs w' g m rw tx :=
  ⟨fun j hj => (hb.cell (p := ⟨g, j, none⟩) (lt_of_cell (h.1 j hj))).trans (h.1 j hj), fun j hj c hc => (hb.cell (p := ⟨rw j, c, none⟩) (lt_of_cell (h.2 j hj c hc))).trans (h.2 j hj c hc)⟩

theorem rowArr_at (f : Nat → ByteArray) : ∀ c, c < 5 → (rowArr f)[c]? = some (.string (f c)) := by
  intro c hc
  match c, hc with
  | 0, _ => rfl
  | 1, _ => rfl
  | 2, _ => rfl
  | 3, _ => rfl
  | 4, _ => rfl

theorem recs_of_rel {B n : Nat} {L : Nat → Ln} {rw : Nat → Nat} {v : Value} {w : World} (h : RecRel B L n rw v w) :
    ∃ g cap, v = .slice (some ⟨g, 0, none⟩) (n + 1) cap ∧ Recs w g (n + 1) rw (recT L) := by
  obtain ⟨hown, hrows⟩ := h
  have hown' := hown
  obtain ⟨_, h' | ⟨g, cap, cur, hv, _, hh, _⟩⟩ := hown
  · omega
  · subst hv
    refine ⟨g, cap, rfl, fun j hj => ?_, fun j hj c hc => ?_⟩
    · rw [hown'.cellAt j (by omega)]
      simp [recVals, hj]
    · rw [cell_of_block (hrows j hj), rowArr_at _ c hc]

/-- What a call of Records leaves, of n lines L. -/
def RecsEnd (L : Nat → Ln) (n : Nat) (w : World) (e : Ending) (w' : World) : Prop :=
  ∃ g' cap rw, e = .returned (.slice (some ⟨g', 0, none⟩) (n + 1) cap) ∧ Recs w' g' (n + 1) rw (recT L) ∧ Below w.heap.size w w'

/-- Records, as the laws take it. -/
theorem records_ok (tb g n : Nat) (L : Nat → Ln) (w : World) (hn : n ≤ 65536) (ht : w.cell? ⟨tb, 0, none⟩ = some (.slice (some ⟨g, 0, none⟩) n n)) (hg : g < w.heap.size) (hL : LinesAt w g 0 n L) :
    Calls Try.prog 8 #[.pointer (some ⟨tb, 0, none⟩)] w (RecsEnd L n w) := by
  refine (records_any tb g n L w hn (lt_of_cell ht) hg ht hL).mono ?_
  rintro e w' ⟨v, rw, he, hr, hb⟩
  obtain ⟨g', cap, rfl, hR⟩ := recs_of_rel hr
  exact ⟨g', cap, rw, he, hR, hb⟩

set_option maxHeartbeats 1600000 in
theorem records_nil (tb : Nat) (L : Nat → Ln) (w : World) (ht : w.cell? ⟨tb, 0, none⟩ = some (.slice none 0 0)) :
    Calls Try.prog 8 #[.pointer (some ⟨tb, 0, none⟩)] w (RecsEnd L 0 w) := by
  have htb := lt_of_cell ht
  have hrel0 := rec_start w L
  have hbel0 : Below w.heap.size w ((w.alloc (.cells #[.string ⟨#[114, 117, 108, 101]⟩, .string ⟨#[115, 117, 98, 106, 101, 99, 116]⟩, .string ⟨#[118, 97, 108, 117, 101]⟩, .string ⟨#[108, 105, 109, 105, 116]⟩, .string ⟨#[114, 101, 115, 117, 108, 116]⟩] 9)).alloc (.cells #[.slice (some ⟨w.heap.size, 0, none⟩) 5 5] 34)) := ((Below.refl _ _).alloc (Nat.le_refl _) _).alloc (by simp) _
  obtain ⟨g', cap, hv, hR⟩ := recs_of_rel hrel0
  cases hv
  have HR := hide hR
  have HB := hide hbel0
  clear hR hrel0 hbel0
  go_enter Try.func8, Try.ntmps8
  go_wp2
  go_loop [3, 14] (fun v kk => v = .slice (some ⟨w.heap.size + 1, 0, none⟩) 1 1 ∧ kk = .int .i64 0) (fun _ _ => 0)
  case atStart => exact ⟨rfl, rfl⟩
  case round =>
    obtain ⟨rfl, rfl⟩ := hrel
    go_wp2
    go_ret
    exact ⟨_, _, _, rfl, HR.out, HB.out⟩

set_option maxHeartbeats 400000 in
/-- toLines of a nil slice. -/
theorem toLines_nil (w : World) :
    Calls Try.prog 7 #[.slice none 0 0] w fun e w' => e = .returned (.slice none 0 0) ∧ w = w' := by
  have hnil := fun (a : Option Addr) (l c : Nat) (w : World) => Lib.run_eql_slice_nil (P := Try.prog) w 22 37 a l c
  go_enter Try.func7, Try.ntmps7
  go_wp2
  go_ret
  exact ⟨rfl, rfl⟩

set_option maxHeartbeats 800000 in
/-- toLines of an empty slice that is not nil. -/
theorem toLines_0 (a : Addr) (c : Nat) (w : World) :
    Calls Try.prog 7 #[.slice (some a) 0 c] w fun e w' => e = .returned (.slice (some ⟨w.heap.size, 0, none⟩) 0 0) ∧ w.heap.size < w'.heap.size ∧ Below w.heap.size w w' := by
  obtain ⟨i0, hi0, hz0, hz1, hz2⟩ := info_parts info36
  have hnil := fun (a : Option Addr) (l c : Nat) (w : World) => Lib.run_eql_slice_nil (P := Try.prog) w 22 37 a l c
  go_enter Try.func7, Try.ntmps7
  go_wp2_with (at_make; refine wpList_make_full _ rfl _ _ 27 rfl w.heap.size 36 i0 zeroLn 5 Try.underlying27 hi0 hz0 hz1 _ _ _ _ 0 rfl rfl rfl rfl ?b2 ?b3 (Nat.le_refl _) ?_)
  case b2 => omega
  case b3 => unfold maxLen; omega
  intro w1 hown hgrow
  have hbel : Below w.heap.size w w1 := (Below.refl _ _).grown hgrow (Nat.le_refl _) (fun k h => by cases h)
  obtain ⟨cur, hh, _⟩ := block_of_owned hown
  have hlt := (Array.getElem?_eq_some_iff.1 hh).1
  clear hown hgrow hh
  go_wp2
  go_loop [4] (fun kk => kk = .int .i64 0) (fun _ => 0)
  case atStart => exact rfl
  case round =>
    obtain rfl := hrel
    go_wp2
    go_ret
    exact ⟨rfl, hlt, hbel⟩
end Go.Proofs.Qxb6629374a
