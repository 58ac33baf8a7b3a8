/-
  Seat b6629374a: the walk of toLines.
-/
import Derived.Test.Qxb6629374aGuards
namespace Go.Proofs.Qxb6629374a
open Go.ChangeShapes Go.WideShapes Go.ChangeAt Go.RowKit

abbrev zeroLn : Value := .agg #[.string ⟨#[]⟩, .string ⟨#[]⟩, .string ⟨#[]⟩, .string ⟨#[]⟩, .bool false]
theorem info36 : (Try.prog.info? 36).map (fun i => (i.zero, i.size, i.bytes)) = some (some zeroLn, 5, 72) := by kernel_rfl

theorem block_of_owned {w1 : World} {B n : Nat} {xs : List Value} (h : w1.ownsRow B 36 5 (.slice (some ⟨B, 0, none⟩) n n) n xs) : ∃ cur, w1.heap[B]? = some (.cells cur 36 (0, 0)) ∧ cur.size = n * 5 := by
  obtain ⟨_, h | ⟨g, cap, cur, hv, _, hh, _, _, hs, _⟩⟩ := h
  · cases h.1
  · cases hv
    exact ⟨cur, hh, hs⟩

theorem cell_of_block {w : World} {g : Nat} {cur : Array Value} {t : TypeId} (h : w.heap[g]? = some (.cells cur t (0, 0))) (j : Nat) : w.cell? ⟨g, j, none⟩ = cur[j]? := by
  simp [World.cell?, h]
theorem free_of_block {w : World} {g : Nat} {cur : Array Value} {t : TypeId} (h : w.heap[g]? = some (.cells cur t (0, 0))) (j : Nat) : w.frozen? ⟨g, j, none⟩ = false := by
  simp [World.frozen?, h]

theorem cells5 {w : World} {g n k : Nat} (h : ∃ cur, w.heap[g]? = some (.cells cur 36 (0, 0)) ∧ cur.size = n * 5) (hk : k < n) :
    ∃ u0 u1 u2 u3 u4, w.cell? ⟨g, k * 5, none⟩ = some u0 ∧ w.cell? ⟨g, k * 5 + 1, none⟩ = some u1 ∧ w.cell? ⟨g, k * 5 + 2, none⟩ = some u2 ∧ w.cell? ⟨g, k * 5 + 3, none⟩ = some u3 ∧ w.cell? ⟨g, k * 5 + 4, none⟩ = some u4 ∧
      w.frozen? ⟨g, k * 5, none⟩ = false ∧ w.frozen? ⟨g, k * 5 + 1, none⟩ = false ∧ w.frozen? ⟨g, k * 5 + 2, none⟩ = false ∧ w.frozen? ⟨g, k * 5 + 3, none⟩ = false ∧ w.frozen? ⟨g, k * 5 + 4, none⟩ = false := by
  obtain ⟨cur, hh, hs⟩ := h
  refine ⟨cur[k * 5], cur[k * 5 + 1], cur[k * 5 + 2], cur[k * 5 + 3], cur[k * 5 + 4], ?_, ?_, ?_, ?_, ?_, free_of_block hh _, free_of_block hh _, free_of_block hh _, free_of_block hh _, free_of_block hh _⟩
  all_goals (rw [cell_of_block hh]; exact Array.getElem?_eq_getElem _)

theorem block_set5 {w : World} {g : Nat} {cur : Array Value} (h : w.heap[g]? = some (.cells cur 36 (0, 0))) (k : Nat) (a0 a1 a2 a3 a4 : Value) (o : Obj) :
    ((((((w.setCell ⟨g, k * 5, none⟩ a0).setCell ⟨g, k * 5 + 1, none⟩ a1).setCell ⟨g, k * 5 + 2, none⟩ a2).setCell ⟨g, k * 5 + 3, none⟩ a3).setCell ⟨g, k * 5 + 4, none⟩ a4).alloc o).heap[g]? =
      some (.cells (((((cur.setIfInBounds (k * 5) a0).setIfInBounds (k * 5 + 1) a1).setIfInBounds (k * 5 + 2) a2).setIfInBounds (k * 5 + 3) a3).setIfInBounds (k * 5 + 4) a4) 36 (0, 0)) := by
  have h5 := heap_setCell_same _ g (k * 5 + 4) _ _ a4 (heap_setCell_same _ g (k * 5 + 3) _ _ a3 (heap_setCell_same _ g (k * 5 + 2) _ _ a2 (heap_setCell_same _ g (k * 5 + 1) _ _ a1 (heap_setCell_same w g (k * 5) cur 36 a0 h))))
  rw [Below.heap_alloc _ _ _ (Array.getElem?_eq_some_iff.1 h5).1]
  exact h5

theorem lines_step {w : World} {g n k : Nat} {L : Nat → Ln} (h : ∃ cur, w.heap[g]? = some (.cells cur 36 (0, 0)) ∧ cur.size = n * 5) (hk : k < n) (hd : LinesAt w g 0 k L) {r s v l : ByteArray} {bb : Bool} (hx : L k = ⟨r, s, v, l, bb⟩) (o : Obj) :
    (∃ cur, ((((((w.setCell ⟨g, k * 5, none⟩ (.string r)).setCell ⟨g, k * 5 + 1, none⟩ (.string s)).setCell ⟨g, k * 5 + 2, none⟩ (.string v)).setCell ⟨g, k * 5 + 3, none⟩ (.string l)).setCell ⟨g, k * 5 + 4, none⟩ (.bool bb)).alloc o).heap[g]? = some (.cells cur 36 (0, 0)) ∧ cur.size = n * 5) ∧
    LinesAt ((((((w.setCell ⟨g, k * 5, none⟩ (.string r)).setCell ⟨g, k * 5 + 1, none⟩ (.string s)).setCell ⟨g, k * 5 + 2, none⟩ (.string v)).setCell ⟨g, k * 5 + 3, none⟩ (.string l)).setCell ⟨g, k * 5 + 4, none⟩ (.bool bb)).alloc o) g 0 (k + 1) L := by
  obtain ⟨cur, hh, hs⟩ := h
  have hb := block_set5 hh k (.string r) (.string s) (.string v) (.string l) (.bool bb) o
  refine ⟨⟨_, hb, by simpa using hs⟩, fun j hj => ?_⟩
  simp only [cell_of_block hb]
  by_cases hjk : j = k
  · subst hjk
    rw [hx]
    refine ⟨?_, ?_, ?_, ?_, ?_⟩ <;> simp [Array.getElem?_setIfInBounds] <;> omega
  · have hlt : j < k := by omega
    have hd' := hd j hlt
    simp only [cell_of_block hh] at hd'
    obtain ⟨e0, e1, e2, e3, e4⟩ := hd'
    refine ⟨?_, ?_, ?_, ?_, ?_⟩
    · rw [Array.getElem?_setIfInBounds_ne (by omega), Array.getElem?_setIfInBounds_ne (by omega), Array.getElem?_setIfInBounds_ne (by omega), Array.getElem?_setIfInBounds_ne (by omega), Array.getElem?_setIfInBounds_ne (by omega)]; exact e0
    · rw [Array.getElem?_setIfInBounds_ne (by omega), Array.getElem?_setIfInBounds_ne (by omega), Array.getElem?_setIfInBounds_ne (by omega), Array.getElem?_setIfInBounds_ne (by omega), Array.getElem?_setIfInBounds_ne (by omega)]; exact e1
    · rw [Array.getElem?_setIfInBounds_ne (by omega), Array.getElem?_setIfInBounds_ne (by omega), Array.getElem?_setIfInBounds_ne (by omega), Array.getElem?_setIfInBounds_ne (by omega), Array.getElem?_setIfInBounds_ne (by omega)]; exact e2
    · rw [Array.getElem?_setIfInBounds_ne (by omega), Array.getElem?_setIfInBounds_ne (by omega), Array.getElem?_setIfInBounds_ne (by omega), Array.getElem?_setIfInBounds_ne (by omega), Array.getElem?_setIfInBounds_ne (by omega)]; exact e3
    · rw [Array.getElem?_setIfInBounds_ne (by omega), Array.getElem?_setIfInBounds_ne (by omega), Array.getElem?_setIfInBounds_ne (by omega), Array.getElem?_setIfInBounds_ne (by omega), Array.getElem?_setIfInBounds_ne (by omega)]; exact e4

set_option maxHeartbeats 1600000 in
theorem toLines_any (b off n c : Nat) (L : Nat → Ln) (w : World) (hn0 : 0 < n) (hn : n ≤ 65536) (hb : b < w.heap.size) (hL : LinesAt w b off n L) :
    Calls Try.prog 7 #[.slice (some ⟨b, off, none⟩) n c] w fun e w' => e = .returned (.slice (some ⟨w.heap.size, 0, none⟩) n n) ∧ LinesAt w' w.heap.size 0 n L ∧ (∀ j, j < n * 5 → w'.frozen? ⟨w.heap.size, j, none⟩ = false) ∧ Below w.heap.size w w' := by
  obtain ⟨i0, hi0, hz0, hz1, hz2⟩ := info_parts info36
  have hnil := fun (a : Option Addr) (l c : Nat) (w : World) => Lib.run_eql_slice_nil (P := Try.prog) w 22 37 a l c
  go_enter Try.func7, Try.ntmps7
  go_wp2_with (at_make; refine wpList_make_full _ rfl _ _ 27 rfl w.heap.size 36 i0 zeroLn 5 Try.underlying27 hi0 hz0 hz1 _ _ _ _ n rfl rfl rfl rfl ?b2 ?b3 (Nat.le_refl _) ?_)
  case b2 => rw [hz2]; omega
  case b3 => unfold maxLen; omega
  intro w1 hown hgrow
  have hbel : Below w.heap.size w w1 := (Below.refl _ _).grown hgrow (Nat.le_refl _) (fun k h => by cases h)
  have hbk : ∃ cur, w1.heap[w.heap.size]? = some (.cells cur 36 (0, 0)) ∧ cur.size = n * 5 := block_of_owned hown
  clear hown hgrow
  go_wp2
  go_loopw [4] (fun kk wr => ∃ k : Nat, k ≤ n ∧ kk = .int .i64 k ∧ (∃ cur, wr.heap[w.heap.size]? = some (.cells cur 36 (0, 0)) ∧ cur.size = n * 5) ∧ LinesAt wr w.heap.size 0 k L ∧ Below w.heap.size w wr) (fun kk _ => n - (intOf kk).toNat)
  case atStart => exact ⟨0, Nat.zero_le _, rfl, hbk, fun k h => absurd h (Nat.not_lt_zero _), hbel⟩
  case round =>
    clear hbk hbel
    obtain ⟨k, hk, rfl, hbk, hdone, hnx⟩ := hrel
    by_cases hlt : k < n
    · obtain ⟨c0, c1, c2, c3, c4⟩ := hL k hlt
      generalize hx : L k = x at c0 c1 c2 c3 c4
      obtain ⟨r, s, v, l, bb⟩ := x
      rw [← hnx.cell (p := ⟨b, _, none⟩) hb] at c0 c1 c2 c3 c4
      have HX := hide hx
      clear hx
      obtain ⟨u0, u1, u2, u3, u4, d0, d1, d2, d3, d4, f0, f1, f2, f3, f4⟩ := cells5 hbk hlt
      have hgt : w.heap.size < wr.heap.size := by
        obtain ⟨cur, hh, _⟩ := hbk
        exact (Array.getElem?_eq_some_iff.1 hh).1
      go_wp2
      have R := lines_step hbk hlt hdone HX.out (.cells #[.string r, .string s, .string v, .string l, .bool bb] 37)
      have R2 : Below w.heap.size w ((((((wr.setCell ⟨w.heap.size, k * 5, none⟩ (.string r)).setCell ⟨w.heap.size, k * 5 + 1, none⟩ (.string s)).setCell ⟨w.heap.size, k * 5 + 2, none⟩ (.string v)).setCell ⟨w.heap.size, k * 5 + 3, none⟩ (.string l)).setCell ⟨w.heap.size, k * 5 + 4, none⟩ (.bool bb)).alloc (.cells #[.string r, .string s, .string v, .string l, .bool bb] 37)) :=
        Below.alloc (((((hnx.setCell (p := ⟨w.heap.size, _, none⟩) (Nat.le_refl _) _).setCell (p := ⟨w.heap.size, _, none⟩) (Nat.le_refl _) _).setCell (p := ⟨w.heap.size, _, none⟩) (Nat.le_refl _) _).setCell (p := ⟨w.heap.size, _, none⟩) (Nat.le_refl _) _).setCell (p := ⟨w.heap.size, _, none⟩) (Nat.le_refl _) _) (by simp; omega) _
      go_roundw
      case rel => exact ⟨k + 1, by omega, by go_num, R.1, R.2, R2⟩
      case measure => simp [intOf]; omega
    · obtain rfl : k = n := by omega
      go_wp2
      go_ret
      obtain ⟨cur, hh, hs⟩ := hbk
      exact ⟨rfl, hdone, fun j _ => free_of_block hh j, hnx⟩
end Go.Proofs.Qxb6629374a
