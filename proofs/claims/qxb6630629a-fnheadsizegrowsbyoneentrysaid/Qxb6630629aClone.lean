/-
  Seat b6630629a: rows of one-cell elements that the call made, and the walks of the clones.
-/
import Derived.Test.Qxb6630629aMore
namespace Go.Proofs.Qxb6630629a
open Go.ChangeShapes Go.WideShapes Go.ChangeAt Go.RowKit Plain

/-- Block g is a row of n cells of type t of which the first k are f's. -/
def Row (w : World) (g : Nat) (t : TypeId) (n k : Nat) (f : Nat → Value) : Prop :=
  ∃ cur, w.heap[g]? = some (.cells cur t (0, 0)) ∧ cur.size = n ∧ ∀ j, j < k → cur[j]? = some (f j)

theorem cell_of_block {w : World} {g : Nat} {cur : Array Value} {t : TypeId} (h : w.heap[g]? = some (.cells cur t (0, 0))) (j : Nat) : w.cell? ⟨g, j, none⟩ = cur[j]? := by
  simp [World.cell?, h]
theorem free_of_block {w : World} {g : Nat} {cur : Array Value} {t : TypeId} (h : w.heap[g]? = some (.cells cur t (0, 0))) (j : Nat) : w.frozen? ⟨g, j, none⟩ = false := by
  simp [World.frozen?, h]
theorem lt_of_cell {w : World} {b o : Nat} {v : Value} (h : w.cell? ⟨b, o, none⟩ = some v) : b < w.heap.size := by
  rcases Nat.lt_or_ge b w.heap.size with h' | h'
  · exact h'
  · simp [World.cell?, Array.getElem?_eq_none h'] at h

theorem Row.lt {w : World} {g n k : Nat} {t : TypeId} {f : Nat → Value} (h : Row w g t n k f) : g < w.heap.size := by
  obtain ⟨cur, hh, _⟩ := h
  exact (Array.getElem?_eq_some_iff.1 hh).1
theorem Row.cell {w : World} {g n k : Nat} {t : TypeId} {f : Nat → Value} (h : Row w g t n k f) {j : Nat} (hj : j < k) : w.cell? ⟨g, j, none⟩ = some (f j) := by
  obtain ⟨cur, hh, _, hc⟩ := h
  rw [cell_of_block hh]
  exact hc j hj
theorem Row.at {w : World} {g n k : Nat} {t : TypeId} {f : Nat → Value} (h : Row w g t n k f) {j : Nat} (hj : j < n) : ∃ u, w.cell? ⟨g, j, none⟩ = some u := by
  obtain ⟨cur, hh, hs, _⟩ := h
  rw [cell_of_block hh]
  exact ⟨cur[j], Array.getElem?_eq_getElem _⟩
theorem Row.free {w : World} {g n k : Nat} {t : TypeId} {f : Nat → Value} (h : Row w g t n k f) (j : Nat) : w.frozen? ⟨g, j, none⟩ = false := by
  obtain ⟨cur, hh, _⟩ := h
  exact free_of_block hh j
theorem Row.congr {w : World} {g n k : Nat} {t : TypeId} {f f' : Nat → Value} (h : Row w g t n k f) (e : ∀ j, j < k → f j = f' j) : Row w g t n k f' := by
  obtain ⟨cur, hh, hs, hc⟩ := h
  exact ⟨cur, hh, hs, fun j hj => by rw [← e j hj]; exact hc j hj⟩
theorem Row.step {w : World} {g n k : Nat} {t : TypeId} {f : Nat → Value} (h : Row w g t n k f) (hk : k < n) {v : Value} (hv : v = f k) : Row (w.setCell ⟨g, k, none⟩ v) g t n (k + 1) f := by
  obtain ⟨cur, hh, hs, hc⟩ := h
  refine ⟨_, heap_setCell_same w g k cur t v hh, by simpa using hs, fun j hj => ?_⟩
  by_cases hjk : j = k
  · subst hjk
    rw [hv]
    simp [Array.getElem?_setIfInBounds]
    omega
  · rw [Array.getElem?_setIfInBounds_ne (by omega)]
    exact hc j (by omega)
theorem Row.kept {w w' : World} {g n k : Nat} {t : TypeId} {f : Nat → Value} (h : Row w g t n k f) (e : w'.heap[g]? = w.heap[g]?) : Row w' g t n k f := by
  obtain ⟨cur, hh, hs, hc⟩ := h
  exact ⟨cur, by rw [e]; exact hh, hs, hc⟩
theorem Row.below {w w' : World} {B g n k : Nat} {t : TypeId} {f : Nat → Value} (h : Row w g t n k f) (hb : Below B w w') (hg : g < B) : Row w' g t n k f := h.kept (hb.block g hg)
theorem Row.other {w : World} {g g' n k o : Nat} {t : TypeId} {f : Nat → Value} (h : Row w g t n k f) (hne : g ≠ g') (v : Value) : Row (w.setCell ⟨g', o, none⟩ v) g t n k f :=
  h.kept (Below.heap_setCell w ⟨g', o, none⟩ v g hne)
theorem Row.zero {w : World} {g n k : Nat} {t : TypeId} {f : Nat → Value} (h : Row w g t n k f) (f' : Nat → Value) : Row w g t n 0 f' := by
  obtain ⟨cur, hh, hs, _⟩ := h
  exact ⟨cur, hh, hs, fun j hj => absurd hj (Nat.not_lt_zero _)⟩
theorem row_of_owned {w1 : World} {B g n : Nat} {t : TypeId} {xs : List Value} (f : Nat → Value) (h : w1.ownsRow B t 1 (.slice (some ⟨g, 0, none⟩) n n) n xs) : Row w1 g t n 0 f := by
  obtain ⟨_, h | ⟨g', cap, cur, hv, _, hh, _, _, hs, _⟩⟩ := h
  · cases h.1
  · cases hv
    exact ⟨cur, hh, by simpa using hs, fun j hj => absurd hj (Nat.not_lt_zero _)⟩

theorem info5 : (Try.prog.info? 5).map (fun i => (i.zero, i.size, i.bytes)) = some (some (.int .u8 0), 1, 1) := by kernel_rfl
theorem info9 : (Try.prog.info? 9).map (fun i => (i.zero, i.size, i.bytes)) = some (some (.string ⟨#[]⟩), 1, 16) := by kernel_rfl
theorem info22 : (Try.prog.info? 22).map (fun i => (i.zero, i.size, i.bytes)) = some (some (.int .u64 0), 1, 8) := by kernel_rfl
theorem info2 : (Try.prog.info? 2).map (fun i => (i.zero, i.size, i.bytes)) = some (some (.int .i64 0), 1, 8) := by kernel_rfl
theorem info26 : (Try.prog.info? 26).map (fun i => (i.zero, i.size, i.bytes)) = some (some (.slice none 0 0), 1, 24) := by kernel_rfl
theorem info24 : (Try.prog.info? 24).map (fun i => (i.zero, i.size, i.bytes)) = some (some (.slice none 0 0), 1, 24) := by kernel_rfl

/-- It returned a slice of n. -/
def SliceB (n : Nat) (e : Ending) : Prop := ∃ a c, e = .returned (.slice a n c)
/-- It returned a slice of n texts, S's, that lie at B or above. -/
def StrsUp (w : World) (B : Nat) (a : Option Addr) (n : Nat) (S : Nat → ByteArray) : Prop :=
  ∀ k, k < n → ∃ b, a = some ⟨b, 0, none⟩ ∧ B ≤ b ∧ b < w.heap.size ∧ w.cell? ⟨b, k, none⟩ = some (.string (S k))
def StrsB (w : World) (B n : Nat) (S : Nat → ByteArray) (e : Ending) : Prop := ∃ a c, e = .returned (.slice a n c) ∧ StrsUp w B a n S

set_option maxRecDepth 100000 in
set_option maxHeartbeats 1600000 in
theorem clone13 (a : Option Addr) (n c : Nat) (w : World) (hn : n ≤ 1048576) (hB : BytesAt w a n) :
    Calls Try.prog 13 #[.slice a n c] w fun e w' => SliceB n e ∧ Below w.heap.size w w' := by
  have hnil := fun (a : Option Addr) (l c : Nat) (w : World) => Lib.run_eql_slice_nil (P := Try.prog) w 26 5 a l c
  cases a with
  | none =>
    obtain rfl : n = 0 := by
      rcases Nat.eq_zero_or_pos n with h | h
      · exact h
      · obtain ⟨b, off, e, _⟩ := hB 0 h
        cases e
    go_enter Try.func13, Try.ntmps13
    go_wp2
    go_ret
    exact ⟨⟨_, _, rfl⟩, Below.refl _ _⟩
  | some a =>
    obtain ⟨i0, hi0, hz0, hz1, hz2⟩ := info_parts info5
    go_enter Try.func13, Try.ntmps13
    go_wp2_with (at_make; refine wpList_make_full _ rfl _ _ 26 rfl w.heap.size 5 i0 (.int .u8 0) 1 Try.underlying26 hi0 hz0 hz1 _ _ _ _ n rfl rfl rfl rfl ?b2 ?b3 (Nat.le_refl _) ?_)
    case b2 => rw [hz2]; omega
    case b3 => unfold maxLen; omega
    intro w1 hown hgrow
    have hbel : Below w.heap.size w w1 := (Below.refl _ _).grown hgrow (Nat.le_refl _) (fun k h => by cases h)
    have hrow : Row w1 w.heap.size 5 n 0 (fun _ => .bool true) := row_of_owned _ hown
    clear hown hgrow
    go_wp2
    go_loopw [4] (fun kk wr => ∃ k : Nat, k ≤ n ∧ kk = .int .i64 k ∧ Row wr w.heap.size 5 n 0 (fun _ => .bool true) ∧ Below w.heap.size w wr) (fun kk _ => n - (intOf kk).toNat)
    case atStart => exact ⟨0, Nat.zero_le _, rfl, hrow, hbel⟩
    case round =>
      clear hrow hbel
      obtain ⟨k, hk, rfl, hrow, hbel⟩ := hrel
      by_cases hlt : k < n
      · obtain ⟨b, off, e, hb, x, c0⟩ := hB k hlt
        cases e
        rw [← hbel.cell (p := ⟨b, _, none⟩) hb] at c0
        obtain ⟨u, d0⟩ := hrow.at hlt
        have f0 := hrow.free k
        have hgt := hrow.lt
        clear hB
        go_wp2
        go_roundw
        case rel => exact ⟨k + 1, by omega, by go_num, by
          obtain ⟨cur, hh, hs, _⟩ := hrow
          exact ⟨_, heap_setCell_same _ _ k cur 5 _ hh, by simpa using hs, fun j hj => absurd hj (Nat.not_lt_zero _)⟩, hbel.setCell (p := ⟨w.heap.size, _, none⟩) (Nat.le_refl _) _⟩
        case measure => simp [intOf]; omega
      · clear hB
        go_wp2
        go_ret
        exact ⟨⟨_, _, rfl⟩, hbel⟩

set_option maxRecDepth 100000 in
set_option maxHeartbeats 1600000 in
theorem clone14 (a : Option Addr) (n c : Nat) (S : Nat → ByteArray) (w : World) (hn : n ≤ 1048576) (hB : StrsAt w a n S) :
    Calls Try.prog 14 #[.slice a n c] w fun e w' => StrsB w' w.heap.size n S e ∧ Below w.heap.size w w' := by
  have hnil := fun (a : Option Addr) (l c : Nat) (w : World) => Lib.run_eql_slice_nil (P := Try.prog) w 24 9 a l c
  cases a with
  | none =>
    obtain rfl : n = 0 := by
      rcases Nat.eq_zero_or_pos n with h | h
      · exact h
      · obtain ⟨b, off, e, _⟩ := hB 0 h
        cases e
    go_enter Try.func14, Try.ntmps14
    go_wp2
    go_ret
    exact ⟨⟨_, _, rfl, fun k h => absurd h (Nat.not_lt_zero _)⟩, Below.refl _ _⟩
  | some a =>
    obtain ⟨i0, hi0, hz0, hz1, hz2⟩ := info_parts info9
    go_enter Try.func14, Try.ntmps14
    go_wp2_with (at_make; refine wpList_make_full _ rfl _ _ 24 rfl w.heap.size 9 i0 (.string ⟨#[]⟩) 1 Try.underlying24 hi0 hz0 hz1 _ _ _ _ n rfl rfl rfl rfl ?b2 ?b3 (Nat.le_refl _) ?_)
    case b2 => rw [hz2]; omega
    case b3 => unfold maxLen; omega
    intro w1 hown hgrow
    have hbel : Below w.heap.size w w1 := (Below.refl _ _).grown hgrow (Nat.le_refl _) (fun k h => by cases h)
    have hrow : Row w1 w.heap.size 9 n 0 (fun j => .string (S j)) := row_of_owned _ hown
    clear hown hgrow
    go_wp2
    go_loopw [4] (fun kk wr => ∃ k : Nat, k ≤ n ∧ kk = .int .i64 k ∧ Row wr w.heap.size 9 n k (fun j => .string (S j)) ∧ Below w.heap.size w wr) (fun kk _ => n - (intOf kk).toNat)
    case atStart => exact ⟨0, Nat.zero_le _, rfl, hrow, hbel⟩
    case round =>
      clear hrow hbel
      obtain ⟨k, hk, rfl, hrow, hbel⟩ := hrel
      by_cases hlt : k < n
      · obtain ⟨b, off, e, hb, c0⟩ := hB k hlt
        cases e
        rw [← hbel.cell (p := ⟨b, _, none⟩) hb] at c0
        obtain ⟨u, d0⟩ := hrow.at hlt
        have f0 := hrow.free k
        have hgt := hrow.lt
        clear hB
        go_wp2
        have R := hrow.step hlt (v := .string (S k)) rfl
        go_roundw
        case rel => exact ⟨k + 1, by omega, by go_num, R, hbel.setCell (p := ⟨w.heap.size, _, none⟩) (Nat.le_refl _) _⟩
        case measure => simp [intOf]; omega
      · clear hB
        obtain rfl : k = n := by omega
        go_wp2
        go_ret
        exact ⟨⟨_, _, rfl, fun j hj => ⟨w.heap.size, rfl, Nat.le_refl _, hrow.lt, hrow.cell hj⟩⟩, hbel⟩
end Go.Proofs.Qxb6630629a
