/-
  Seat b6629374a: the walk of (*Table).Records.
-/
import Derived.Test.Qxb6629374aToLines
namespace Go.Proofs.Qxb6629374a
open Go.ChangeShapes Go.WideShapes Go.ChangeAt Go.RowKit

def okT : ByteArray := ⟨#[111, 107]⟩
def breachT : ByteArray := ⟨#[98, 114, 101, 97, 99, 104]⟩
/-- The header's cells. -/
def headT : Nat → ByteArray
  | 0 => ⟨#[114, 117, 108, 101]⟩
  | 1 => ⟨#[115, 117, 98, 106, 101, 99, 116]⟩
  | 2 => ⟨#[118, 97, 108, 117, 101]⟩
  | 3 => ⟨#[108, 105, 109, 105, 116]⟩
  | _ => ⟨#[114, 101, 115, 117, 108, 116]⟩
/-- A line's cells. -/
def lineT (x : Ln) : Nat → ByteArray
  | 0 => x.r
  | 1 => x.s
  | 2 => x.v
  | 3 => x.l
  | _ => if x.b then breachT else okT
/-- The records' cells: the header, then a line each. -/
def recT (L : Nat → Ln) : Nat → Nat → ByteArray
  | 0 => headT
  | k + 1 => lineT (L k)

theorem info34 : (Try.prog.info? 34).map (fun i => (i.zero, i.size, i.bytes)) = some (some (.slice none 0 0), 1, 24) := by kernel_rfl

def rowArr (f : Nat → ByteArray) : Array Value := #[.string (f 0), .string (f 1), .string (f 2), .string (f 3), .string (f 4)]

/-- The slice values of the first m records. -/
def recVals (rw : Nat → Nat) (m : Nat) : List Value := (List.range m).map fun j => Value.slice (some ⟨rw j, 0, none⟩) 5 5

/-- k lines have been gathered: the slice v owns k + 1 slices of strings, each a row of its own. -/
def RecRel (B : Nat) (L : Nat → Ln) (k : Nat) (rw : Nat → Nat) (v : Value) (wr : World) : Prop :=
  wr.ownsRow B 34 1 v (k + 1) (recVals rw (k + 1)) ∧ ∀ j, j < k + 1 → wr.heap[rw j]? = some (.cells (rowArr (recT L j)) 9 (0, 0))

theorem row_ne_own {B n : Nat} {v : Value} {w : World} {xs : List Value} {cs : Array Value} {r : Nat} (hown : w.ownsRow B 34 1 v n xs) (hr : w.heap[r]? = some (.cells cs 9 (0, 0))) : some r ≠ v.ownBlock := by
  intro h
  obtain ⟨_, h' | ⟨g, cap, cur, hv, _, hh, _⟩⟩ := hown
  · rw [h'.1] at h; cases h
  · rw [hv] at h
    simp only [Value.ownBlock, Option.some.injEq] at h
    rw [h, hh] at hr
    simp at hr

theorem rec_step {B k : Nat} {L : Nat → Ln} {rw : Nat → Nat} {v v' : Value} {wr w1 : World} (h : RecRel B L k rw v wr) (c5 : Array Value) (one : Array Value) (row : Array Value) (hrow : row = rowArr (recT L (k + 1)))
    (hown' : w1.ownsRow B 34 1 v' (k + 1 + 1) (recVals rw (k + 1) ++ [.slice (some ⟨wr.heap.size + 1, 0, none⟩) 5 5]))
    (hgrow : (((wr.alloc (.cells c5 36)).alloc (.cells row 9)).alloc (.cells one 34)).grownBy w1 v.ownBlock) :
    ∃ rw', RecRel B L (k + 1) rw' v' w1 := by
  obtain ⟨hown, hrows⟩ := h
  refine ⟨fun j => if j = k + 1 then wr.heap.size + 1 else rw j, ?_, ?_⟩
  · have e : recVals (fun j => if j = k + 1 then wr.heap.size + 1 else rw j) (k + 1 + 1) = recVals rw (k + 1) ++ [.slice (some ⟨wr.heap.size + 1, 0, none⟩) 5 5] := by
      unfold recVals
      rw [List.range_succ, List.map_append]
      congr 1
      · apply List.map_congr_left
        intro j hj
        have := List.mem_range.1 hj
        dsimp only
        rw [if_neg (by omega)]
      · simp
    rw [e]; exact hown'
  · intro j hj
    have hown3 := ((hown.alloc (.cells c5 36)).alloc (.cells row 9)).alloc (.cells one 34)
    by_cases hjk : j = k + 1
    · subst hjk
      simp only [if_true]
      have hb : (((wr.alloc (.cells c5 36)).alloc (.cells row 9)).alloc (.cells one 34)).heap[wr.heap.size + 1]? = some (.cells row 9 (0, 0)) := by
        rw [Below.heap_alloc _ _ _ (by simp)]
        show ((wr.alloc (.cells c5 36)).heap.push (.cells row 9))[wr.heap.size + 1]? = _
        rw [Array.getElem?_push, if_pos (by simp)]
      rw [hgrow.block _ (by simp) (row_ne_own hown3 hb), hb, hrow]
    · simp only [hjk, if_false]
      have hr := hrows j (by omega)
      have hlt : rw j < wr.heap.size := (Array.getElem?_eq_some_iff.1 hr).1
      have hb : (((wr.alloc (.cells c5 36)).alloc (.cells row 9)).alloc (.cells one 34)).heap[rw j]? = some (.cells (rowArr (recT L j)) 9 (0, 0)) := by
        rw [Below.heap_alloc _ _ _ (by simp; omega), Below.heap_alloc _ _ _ (by simp; omega), Below.heap_alloc _ _ _ hlt]
        exact hr
      rw [hgrow.block _ (by simp; omega) (row_ne_own hown3 hb), hb]

theorem rec_start (w : World) (L : Nat → Ln) : RecRel w.heap.size L 0 (fun _ => w.heap.size) (.slice (some ⟨w.heap.size + 1, 0, none⟩) 1 1)
    ((w.alloc (.cells #[.string ⟨#[114, 117, 108, 101]⟩, .string ⟨#[115, 117, 98, 106, 101, 99, 116]⟩, .string ⟨#[118, 97, 108, 117, 101]⟩, .string ⟨#[108, 105, 109, 105, 116]⟩, .string ⟨#[114, 101, 115, 117, 108, 116]⟩] 9)).alloc (.cells #[.slice (some ⟨w.heap.size, 0, none⟩) 5 5] 34)) := by
  constructor
  · refine ⟨by simp [recVals], .inr ⟨w.heap.size + 1, 1, #[.slice (some ⟨w.heap.size, 0, none⟩) 5 5], rfl, by omega, ?_, by omega, by unfold maxLen; omega, by simp, by simp [recVals]⟩⟩
    show ((w.alloc _).heap.push _)[w.heap.size + 1]? = _
    rw [Array.getElem?_push, if_pos (by simp)]
  · intro j hj
    obtain rfl : j = 0 := by omega
    rw [Below.heap_alloc _ _ _ (by simp)]
    show (w.heap.push _)[w.heap.size]? = _
    rw [Array.getElem?_push, if_pos rfl]
    rfl

theorem hnew3 (wr : World) (a b : Array Value) (ta tb' : TypeId) (v : Value) (t : TypeId) : ∀ j u, [v][j]? = some u → (((wr.alloc (.cells a ta)).alloc (.cells b tb')).alloc (.cells #[v] t)).cell? ((⟨wr.heap.size + 2, 0, none⟩ : Addr).add j) = some u := by
  intro j u hj
  match j, hj with
  | 0, hj =>
    simp at hj
    subst hj
    have e : wr.heap.size + 2 = ((wr.alloc (.cells a ta)).alloc (.cells b tb')).heap.size := by simp
    rw [e, cell_one_new _ _ _ 0 v (by simp)]

set_option maxHeartbeats 1600000 in
theorem records_any (tb g n : Nat) (L : Nat → Ln) (w : World) (hn : n ≤ 65536) (htb : tb < w.heap.size) (hg : g < w.heap.size) (ht : w.cell? ⟨tb, 0, none⟩ = some (.slice (some ⟨g, 0, none⟩) n n)) (hL : LinesAt w g 0 n L) :
    Calls Try.prog 8 #[.pointer (some ⟨tb, 0, none⟩)] w fun e w' => ∃ v rw, e = .returned v ∧ RecRel w.heap.size L n rw v w' ∧ Below w.heap.size w w' := by
  obtain ⟨i0, hi0, hz0, hz1, hz2⟩ := info_parts info34
  go_enter Try.func8, Try.ntmps8
  go_wp2
  go_loopw [3, 14] (fun v kk wr => ∃ (k : Nat) (rw : Nat → Nat), k ≤ n ∧ kk = .int .i64 k ∧ RecRel w.heap.size L k rw v wr ∧ Below w.heap.size w wr) (fun _ kk _ => n - (intOf kk).toNat)
  case atStart => exact ⟨0, _, Nat.zero_le _, rfl, rec_start w L, ((Below.refl _ _).alloc (Nat.le_refl _) _).alloc (by simp) _⟩
  case round =>
    obtain ⟨k, rw, hk, rfl, hrel, hnx⟩ := hrel
    by_cases hlt : k < n
    · obtain ⟨c0, c1, c2, c3, c4⟩ := hL k hlt
      generalize hx : L k = x at c0 c1 c2 c3 c4
      obtain ⟨r, s, v, l, bb⟩ := x
      rw [← hnx.cell (p := ⟨g, _, none⟩) hg] at c0 c1 c2 c3 c4
      simp only [Nat.zero_add] at c0 c1 c2 c3 c4
      have HX := hide hx
      clear hx
      have hsz := hnx.size
      cases bb
      · go_wp2_with (at_builtin; refine wpList_append_own _ rfl (.tmp 20) (.tmp 31) 25 rfl w.heap.size 34 i0 (.slice none 0 0) 1 24 Try.underlying25 hi0 hz0 hz1 hz2 rfl (by decide) _ _ _ rfl (((hrel.1.alloc _).alloc _).alloc _) ⟨wr.heap.size + 2, 0, none⟩ 1 1 [.slice (some ⟨wr.heap.size + 1, 0, none⟩) 5 5] rfl rfl ?c1 ?c2 ?c3 ?c4 ?c5 ?_)
        case c1 => exact hnew3 _ _ _ _ _ _ _
        case c2 => intro u hu; simp at hu; subst hu; rfl
        case c3 => unfold maxLen; omega
        case c4 => omega
        case c5 => simp; omega
        intro v' w1 hown' hgrow _
        obtain ⟨rw', hr'⟩ := rec_step hrel _ _ _ (by simp only [recT, HX.out]; rfl) hown' hgrow
        have hb' : Below w.heap.size w w1 := (((hnx.alloc hnx.size _).alloc (by simp; omega) _).alloc (by simp; omega) _).grown hgrow (by simp; omega) (fun j hj => (hrel.1.lt j hj).1)
        clear hown' hgrow hrel
        go_wp2
        go_roundw
        case rel => exact ⟨k + 1, rw', by omega, by go_num, hr', hb'⟩
        case measure => simp [intOf]; omega
      · go_wp2_with (at_builtin; refine wpList_append_own _ rfl (.tmp 20) (.tmp 31) 25 rfl w.heap.size 34 i0 (.slice none 0 0) 1 24 Try.underlying25 hi0 hz0 hz1 hz2 rfl (by decide) _ _ _ rfl (((hrel.1.alloc _).alloc _).alloc _) ⟨wr.heap.size + 2, 0, none⟩ 1 1 [.slice (some ⟨wr.heap.size + 1, 0, none⟩) 5 5] rfl rfl ?d1 ?d2 ?d3 ?d4 ?d5 ?_)
        case d1 => exact hnew3 _ _ _ _ _ _ _
        case d2 => intro u hu; simp at hu; subst hu; rfl
        case d3 => unfold maxLen; omega
        case d4 => omega
        case d5 => simp; omega
        intro v' w1 hown' hgrow _
        obtain ⟨rw', hr'⟩ := rec_step hrel _ _ _ (by simp only [recT, HX.out]; rfl) hown' hgrow
        have hb' : Below w.heap.size w w1 := (((hnx.alloc hnx.size _).alloc (by simp; omega) _).alloc (by simp; omega) _).grown hgrow (by simp; omega) (fun j hj => (hrel.1.lt j hj).1)
        clear hown' hgrow hrel
        go_wp2
        go_roundw
        case rel => exact ⟨k + 1, rw', by omega, by go_num, hr', hb'⟩
        case measure => simp [intOf]; omega
    · obtain rfl : k = n := by omega
      go_wp2
      go_ret
      exact ⟨_, _, rfl, hrel, hnx⟩
end Go.Proofs.Qxb6629374a
