/-
  Seat b6630629a: the walk of ZZnewHead.
-/
import Derived.Test.Qxb6630629aClone
import Derived.Test.Qxb6630629aMap
import Derived.BigRegion
namespace Go.Proofs.Qxb6630629a
open Go.ChangeShapes Go.WideShapes Go.ChangeAt Go.RowKit Plain Go.Maps

theorem law9 : Keyed Try.prog 9 := string_keyed Try.underlying9
theorem make33 (n : Nat) (w : World) : (Instr.makeMap 33 (some (.int .i64 (n : Int)))).run Try.prog w = .ok (.map (some w.heap.size)) (w.alloc (.map #[] 0)) := by
  simp [Instr.makeMap, run_underlying Try.underlying33, asInt, asIntOf, Result.andThen]

theorem set8_other (w : World) (g : Nat) (a0 a1 a2 a3 a4 a5 a6 a7 : Value) (p : Nat) (hp : p ≠ g) :
    ((((((((w.setCell ⟨g, 0, none⟩ a0).setCell ⟨g, 1, none⟩ a1).setCell ⟨g, 2, none⟩ a2).setCell ⟨g, 3, none⟩ a3).setCell ⟨g, 4, none⟩ a4).setCell ⟨g, 5, none⟩ a5).setCell ⟨g, 6, none⟩ a6).setCell ⟨g, 7, none⟩ a7).heap[p]? = w.heap[p]? := by
  rw [Below.heap_setCell _ ⟨g, 7, none⟩ _ _ hp, Below.heap_setCell _ ⟨g, 6, none⟩ _ _ hp, Below.heap_setCell _ ⟨g, 5, none⟩ _ _ hp, Below.heap_setCell _ ⟨g, 4, none⟩ _ _ hp, Below.heap_setCell _ ⟨g, 3, none⟩ _ _ hp, Below.heap_setCell _ ⟨g, 2, none⟩ _ _ hp, Below.heap_setCell _ ⟨g, 1, none⟩ _ _ hp, Below.heap_setCell _ ⟨g, 0, none⟩ _ _ hp]
theorem ownsMap_of_heap {w w' : World} {b n : Nat} {D : DU} (h : w.ownsMap Try.prog 9 mapR b n D) (e : w'.heap[b]? = w.heap[b]?) : w'.ownsMap Try.prog 9 mapR b n D := by
  obtain ⟨es, clock, hb, r⟩ := h
  exact ⟨es, clock, e.trans hb, r⟩
theorem set4_other (w : World) (g o0 o1 o2 o3 : Nat) (a0 a1 a2 a3 : Value) (p : Nat) (hp : p ≠ g) :
    ((((w.setCell ⟨g, o0, none⟩ a0).setCell ⟨g, o1, none⟩ a1).setCell ⟨g, o2, none⟩ a2).setCell ⟨g, o3, none⟩ a3).drew.heap[p]? = w.heap[p]? := by
  show ((((w.setCell ⟨g, o0, none⟩ a0).setCell ⟨g, o1, none⟩ a1).setCell ⟨g, o2, none⟩ a2).setCell ⟨g, o3, none⟩ a3).heap[p]? = w.heap[p]?
  rw [Below.heap_setCell _ ⟨g, o3, none⟩ _ _ hp, Below.heap_setCell _ ⟨g, o2, none⟩ _ _ hp, Below.heap_setCell _ ⟨g, o1, none⟩ _ _ hp, Below.heap_setCell _ ⟨g, o0, none⟩ _ _ hp]

/-- A Head's value. -/
def headV (clock : Int) (revision mb : Nat) (da : Option Addr) (dn dc last offices g ln : Nat) (groups : Int) : Value :=
  .agg #[.int .i64 clock, .int .u64 (revision : Int), .map (some mb), .slice da dn dc, .int .u64 (last : Int), .int .u64 (offices : Int), .slice (some ⟨g, 0, none⟩) ln ln, .int .i64 groups]

abbrev zeroLe : Value := .agg #[.int .u64 0, .int .u64 0, .int .i64 0, .slice none 0 0]
theorem info59 : (Try.prog.info? 59).map (fun i => (i.zero, i.size, i.bytes)) = some (some zeroLe, 4, 48) := by kernel_rfl

/-- Block g is a row of ln leases of which the first k are L's. -/
def Row4 (w : World) (g ln k : Nat) (L : Nat → Le) : Prop :=
  ∃ cur, w.heap[g]? = some (.cells cur 59 (0, 0)) ∧ cur.size = ln * 4 ∧ ∀ j, j < k → cur[j * 4]? = some (.int .u64 ((L j).id : Int)) ∧ cur[j * 4 + 1]? = some (.int .u64 ((L j).rn : Int)) ∧ cur[j * 4 + 2]? = some (.int .i64 (L j).ttl) ∧ cur[j * 4 + 3]? = some (.slice (L j).ka (L j).kn (L j).kc)
theorem row4_of_owned {w1 : World} {B g n : Nat} {xs : List Value} (L : Nat → Le) (h : w1.ownsRow B 59 4 (.slice (some ⟨g, 0, none⟩) n n) n xs) : Row4 w1 g n 0 L := by
  obtain ⟨_, h | ⟨g', cap, cur, hv, _, hh, _, _, hs, _⟩⟩ := h
  · cases h.1
  · cases hv
    exact ⟨cur, hh, hs, fun j hj => absurd hj (Nat.not_lt_zero _)⟩
theorem Row4.lt {w : World} {g ln k : Nat} {L : Nat → Le} (h : Row4 w g ln k L) : g < w.heap.size := by
  obtain ⟨cur, hh, _⟩ := h
  exact (Array.getElem?_eq_some_iff.1 hh).1
theorem Row4.cells {w : World} {g ln k j : Nat} {L : Nat → Le} (h : Row4 w g ln k L) (hj : j < ln) :
    ∃ u0 u1 u2 u3, w.cell? ⟨g, j * 4, none⟩ = some u0 ∧ w.cell? ⟨g, j * 4 + 1, none⟩ = some u1 ∧ w.cell? ⟨g, j * 4 + 2, none⟩ = some u2 ∧ w.cell? ⟨g, j * 4 + 3, none⟩ = some u3 ∧
      w.frozen? ⟨g, j * 4, none⟩ = false ∧ w.frozen? ⟨g, j * 4 + 1, none⟩ = false ∧ w.frozen? ⟨g, j * 4 + 2, none⟩ = false ∧ w.frozen? ⟨g, j * 4 + 3, none⟩ = false := by
  obtain ⟨cur, hh, hs, _⟩ := h
  refine ⟨cur[j * 4], cur[j * 4 + 1], cur[j * 4 + 2], cur[j * 4 + 3], ?_, ?_, ?_, ?_, free_of_block hh _, free_of_block hh _, free_of_block hh _, free_of_block hh _⟩
  all_goals (rw [cell_of_block hh]; exact Array.getElem?_eq_getElem _)
theorem Row4.kept {w w' : World} {g ln k : Nat} {L : Nat → Le} (h : Row4 w g ln k L) (e : w'.heap[g]? = w.heap[g]?) : Row4 w' g ln k L := by
  obtain ⟨cur, hh, hs, hc⟩ := h
  exact ⟨cur, by rw [e]; exact hh, hs, hc⟩
theorem Row4.step {w : World} {g ln k : Nat} {L : Nat → Le} (h : Row4 w g ln k L) (hk : k < ln) {x : Le} (hx : L k = x) :
    Row4 ((((w.setCell ⟨g, k * 4, none⟩ (.int .u64 (x.id : Int))).setCell ⟨g, k * 4 + 1, none⟩ (.int .u64 (x.rn : Int))).setCell ⟨g, k * 4 + 2, none⟩ (.int .i64 x.ttl)).setCell ⟨g, k * 4 + 3, none⟩ (.slice x.ka x.kn x.kc)) g ln (k + 1) L := by
  obtain ⟨cur, hh, hs, hc⟩ := h
  have h4 := heap_setCell_same _ g (k * 4 + 3) _ _ (.slice x.ka x.kn x.kc) (heap_setCell_same _ g (k * 4 + 2) _ _ (.int .i64 x.ttl) (heap_setCell_same _ g (k * 4 + 1) _ _ (.int .u64 (x.rn : Int)) (heap_setCell_same w g (k * 4) cur 59 (.int .u64 (x.id : Int)) hh)))
  refine ⟨_, h4, by simpa using hs, fun j hj => ?_⟩
  by_cases hjk : j = k
  · subst hjk
    rw [hx]
    refine ⟨?_, ?_, ?_, ?_⟩ <;> simp [Array.getElem?_setIfInBounds] <;> omega
  · obtain ⟨e0, e1, e2, e3⟩ := hc j (by omega)
    refine ⟨?_, ?_, ?_, ?_⟩
    all_goals rw [Array.getElem?_setIfInBounds_ne (by omega), Array.getElem?_setIfInBounds_ne (by omega), Array.getElem?_setIfInBounds_ne (by omega), Array.getElem?_setIfInBounds_ne (by omega)]
    · exact e0
    · exact e1
    · exact e2
    · exact e3

theorem Row4.leas {w : World} {g ln : Nat} {L : Nat → Le} (h : Row4 w g ln ln L) (hk : ∀ j, j < ln → StrsAt w (L j).ka (L j).kn (L j).ks ∧ (L j).kn ≤ maxLen ∧ (L j).id < 18446744073709551616 ∧ (L j).rn < 18446744073709551616) :
    LeasAt w (some ⟨g, 0, none⟩) ln L := by
  intro k hlt
  have hg := h.lt
  obtain ⟨cur, hh, hs, hc⟩ := h
  obtain ⟨e0, e1, e2, e3⟩ := hc k hlt
  refine ⟨⟨g, 0, rfl, hg, ?_, ?_, ?_, ?_⟩, hk k hlt⟩
  · rw [cell_of_block hh, Nat.zero_add]; exact e0
  · rw [cell_of_block hh, Nat.zero_add]; exact e1
  · rw [cell_of_block hh, Nat.zero_add]; exact e2
  · rw [cell_of_block hh, Nat.zero_add]; exact e3

/-- It returned a Head of the entries E, of the leases L. -/
def HeadB (B : Nat) (w : World) (clock : Int) (revision : Nat) (E : Nat → En) (n : Nat) (da : Option Addr) (dn dc last offices : Nat) (L : Nat → Le) (ln : Nat) (groups : Int) (e : Ending) : Prop :=
  ∃ mb D g, e = .returned (headV clock revision mb da dn dc last offices g ln groups) ∧ w.ownsMap Try.prog 9 mapR mb n D ∧ Holds D E n ∧ LeasAt w (some ⟨g, 0, none⟩) ln L ∧ B ≤ mb ∧ B ≤ g

set_option maxRecDepth 100000 in
set_option maxHeartbeats 3200000 in
theorem head15 (clock : Int) (revision gk gv gr n : Nat) (E : Nat → En) (da : Option Addr) (dn dc last offices gi gn gt gl ln : Nat) (L : Nat → Le) (groups : Int) (w : World)
    (hn : n ≤ 1048576) (hln : ln ≤ 1048576)
    (hk : ∀ j, j < n → w.cell? ⟨gk, j, none⟩ = some (.string (E j).k)) (hv : ∀ j, j < n → w.cell? ⟨gv, j, none⟩ = some (.slice (E j).va (E j).vl (E j).vc)) (hr : ∀ j, j < n → w.cell? ⟨gr, j, none⟩ = some (.int .u64 ((E j).rv : Int)))
    (hrv : ∀ j, j < n → (E j).rv < 18446744073709551616) (hks : ∀ j, j < n → (E j).k.size ≤ maxLen) (hap : ∀ i, i < n → ∀ j, j < i → (E i).k ≠ (E j).k)
    (hi : ∀ j, j < ln → w.cell? ⟨gi, j, none⟩ = some (.int .u64 ((L j).id : Int))) (hnn : ∀ j, j < ln → w.cell? ⟨gn, j, none⟩ = some (.int .u64 ((L j).rn : Int)))
    (ht : ∀ j, j < ln → w.cell? ⟨gt, j, none⟩ = some (.int .i64 (L j).ttl)) (hl : ∀ j, j < ln → w.cell? ⟨gl, j, none⟩ = some (.slice (L j).ka (L j).kn (L j).kc))
    (hLk : ∀ j, j < ln → StrsAt w (L j).ka (L j).kn (L j).ks ∧ (L j).kn ≤ maxLen ∧ (L j).id < 18446744073709551616 ∧ (L j).rn < 18446744073709551616) :
    Calls Try.prog 15 #[.int .i64 clock, .int .u64 (revision : Int), .slice (some ⟨gk, 0, none⟩) n n, .slice (some ⟨gv, 0, none⟩) n n, .slice (some ⟨gr, 0, none⟩) n n, .slice da dn dc, .int .u64 (last : Int), .int .u64 (offices : Int),
      .slice (some ⟨gi, 0, none⟩) ln ln, .slice (some ⟨gn, 0, none⟩) ln ln, .slice (some ⟨gt, 0, none⟩) ln ln, .slice (some ⟨gl, 0, none⟩) ln ln, .int .i64 groups] w fun e w' => HeadB w.heap.size w' clock revision E n da dn dc last offices L ln groups e ∧ Below w.heap.size w w' := by
  have hmm := make33
  go_enter Try.func15, Try.ntmps15
  go_wp2
  go_loopw [28] (fun kk wr => ∃ (k : Nat) (D : DU), k ≤ n ∧ kk = .int .i64 k ∧ wr.ownsMap Try.prog 9 mapR (w.heap.size + 1) k D ∧ Holds D E k ∧ Row wr w.heap.size 38 8 0 (fun _ => undef) ∧ Below w.heap.size w wr) (fun kk _ => n - (intOf kk).toNat)
  case atStart =>
    refine ⟨0, .map [], Nat.zero_le _, rfl, ?_, holds_zero E, ?_, ((Below.refl _ _).alloc (Nat.le_refl _) _).alloc (by simp) _⟩
    · have := World.ownsMap_made (w.alloc (.cells #[.int .i64 0, .int .u64 0, .map none, .slice none 0 0, .int .u64 0, .int .u64 0, .slice none 0 0, .int .i64 0] 38)) Try.prog 9 mapR
      simpa using this
    · refine ⟨#[.int .i64 0, .int .u64 0, .map none, .slice none 0 0, .int .u64 0, .int .u64 0, .slice none 0 0, .int .i64 0], ?_, rfl, fun j hj => absurd hj (Nat.not_lt_zero _)⟩
      rw [Below.heap_alloc _ _ _ (by simp)]
      exact (MapKept.heap_alloc w _).1
  case round =>
    clear hmm
    obtain ⟨k, D, hk', rfl, hown, hold, hres, hbel⟩ := hrel
    by_cases hlt : k < n
    · have c0 := hk k hlt
      have c1 := hv k hlt
      have c2 := hr k hlt
      have hb0 := lt_of_cell c0
      have hb1 := lt_of_cell c1
      have hb2 := lt_of_cell c2
      rw [← hbel.cell (p := ⟨gk, _, none⟩) hb0] at c0
      rw [← hbel.cell (p := ⟨gv, _, none⟩) hb1] at c1
      rw [← hbel.cell (p := ⟨gr, _, none⟩) hb2] at c2
      obtain ⟨w', hrun, hown', hgrow⟩ := hown.drew.update (t := 33) (e := 56) law9 Try.underlying33 (by unfold maxLen; omega) (key := .string (E k).k) (WideMaps.keyOf_string_mk (P := Try.prog) Try.underlying9 (hks k hlt)) (mapR_mk (E k).va (E k).vl (E k).vc (E k).rv (hrv k hlt))
      have HN := hide (hold.step (hown.tidy law9) (fun j hj => hap k hlt j hj))
      have HB : Hid (Below w.heap.size w w') := hide (hbel.drew.grown hgrow hbel.size (fun j hj => by cases hj; omega))
      have HR : Hid (Row w' w.heap.size 38 8 0 (fun _ => undef)) := hide (hres.kept (hgrow.block _ hres.lt (by simp)))
      clear hk hv hr hi hnn ht hl hgrow hold hres
      change w'.ownsMap Try.prog 9 mapR (w.heap.size + 1) (k + 1) (D.put (kl (E k)) _) at hown'
      generalize D.put (kl (E k)) _ = D' at hown' HN
      generalize E k = x at c0 c1 c2 hrun
      obtain ⟨k0, v0, l0, cc0, r0⟩ := x
      dsimp only at c0 c1 c2 hrun
      go_wp2
      go_region
      go_wp2
      go_roundw
      case rel => exact ⟨k + 1, _, by omega, by go_num, hown', HN.out, HR.out, HB.out⟩
      case measure => simp [intOf]; omega
    · obtain rfl : k = n := by omega
      clear hk hv hr hrv hks hap
      obtain ⟨i0, hi0, hz0, hz1, hz2⟩ := info_parts info59
      go_wp2_with (at_make; refine wpList_make_full _ rfl _ _ 34 rfl w.heap.size 59 i0 zeroLe 4 Try.underlying34 hi0 hz0 hz1 _ _ _ _ ln rfl rfl rfl rfl ?b2 ?b3 hbel.size ?_)
      case b2 => rw [hz2]; omega
      case b3 => unfold maxLen; omega
      intro w1 hown1 hgrow
      have hbel1 : Below w.heap.size w w1 := hbel.grown hgrow hbel.size (fun k h => by cases h)
      have hrow : Row4 w1 wr.heap.size ln 0 L := row4_of_owned _ hown1
      have hres1 : Row w1 w.heap.size 38 8 0 (fun _ => undef) := hres.kept (hgrow.block _ hres.lt (by simp))
      have hmap1 := hown.kept hgrow (by simp)
      have hlt1 := hres.lt
      have hlt2 := hown.lt
      have hsz := hbel.size
      clear hown1 hgrow hres hown hbel
      generalize wr.heap.size = g at hrow hlt1 hlt2 ⊢
      go_wp2
      go_loopw [30] (fun kk wr => ∃ j : Nat, j ≤ ln ∧ kk = .int .i64 j ∧ Row4 wr g ln j L ∧ wr.ownsMap Try.prog 9 mapR (w.heap.size + 1) k D ∧ Row wr w.heap.size 38 8 0 (fun _ => undef) ∧ Below w.heap.size w wr) (fun kk _ => ln - (intOf kk).toNat)
      case atStart => exact ⟨0, Nat.zero_le _, rfl, hrow, hmap1, hres1, hbel1⟩
      case round =>
        clear hrow hmap1 hres1 hbel1
        obtain ⟨j, hj, rfl, hrow, hmap, hres, hbel⟩ := hrel
        by_cases hjt : j < ln
        · have c0 := hi j hjt
          have c1 := hnn j hjt
          have c2 := ht j hjt
          have c3 := hl j hjt
          have hb0 := lt_of_cell c0
          have hb1 := lt_of_cell c1
          have hb2 := lt_of_cell c2
          have hb3 := lt_of_cell c3
          rw [← hbel.cell (p := ⟨gi, _, none⟩) hb0] at c0
          rw [← hbel.cell (p := ⟨gn, _, none⟩) hb1] at c1
          rw [← hbel.cell (p := ⟨gt, _, none⟩) hb2] at c2
          rw [← hbel.cell (p := ⟨gl, _, none⟩) hb3] at c3
          clear hi hnn ht hl
          generalize hx : L j = x at c0 c1 c2 c3
          have HX := hide hx
          clear hx
          obtain ⟨i0, r0, t0, ka, kn, kc, ks⟩ := x
          dsimp only at c0 c1 c2 c3
          obtain ⟨u0, u1, u2, u3, d0, d1, d2, d3, f0, f1, f2, f3⟩ := hrow.cells hjt
          have hgt := hrow.lt
          have hgl : w.heap.size ≤ g := by omega
          go_wp2
          go_region
          go_wp2
          have R1 := hrow.step hjt HX.out
          have R2 := hbel.setCell (p := ⟨g, j * 4, none⟩) hgl (.int .u64 (i0 : Int)) |>.setCell (p := ⟨g, j * 4 + 1, none⟩) hgl (.int .u64 (r0 : Int)) |>.setCell (p := ⟨g, j * 4 + 2, none⟩) hgl (.int .i64 t0) |>.setCell (p := ⟨g, j * 4 + 3, none⟩) hgl (.slice ka kn kc)
          have R3 := fun p hp => set4_other wr g (j * 4) (j * 4 + 1) (j * 4 + 2) (j * 4 + 3) (.int .u64 (i0 : Int)) (.int .u64 (r0 : Int)) (.int .i64 t0) (.slice ka kn kc) p hp
          go_roundw
          case rel => exact ⟨j + 1, by omega, by go_num, R1, ownsMap_of_heap hmap (R3 _ (by omega)), hres.kept (R3 _ (by omega)), R2.drew⟩
          case measure => simp [intOf]; omega
        · obtain rfl : j = ln := by omega
          clear hi hnn ht hl
          obtain ⟨u0, d0⟩ := hres.at (j := 0) (by omega)
          obtain ⟨u1, d1⟩ := hres.at (j := 1) (by omega)
          obtain ⟨u2, d2⟩ := hres.at (j := 2) (by omega)
          obtain ⟨u3, d3⟩ := hres.at (j := 3) (by omega)
          obtain ⟨u4, d4⟩ := hres.at (j := 4) (by omega)
          obtain ⟨u5, d5⟩ := hres.at (j := 5) (by omega)
          obtain ⟨u6, d6⟩ := hres.at (j := 6) (by omega)
          obtain ⟨u7, d7⟩ := hres.at (j := 7) (by omega)
          have f0 := hres.free 0
          have f1 := hres.free 1
          have f2 := hres.free 2
          have f3 := hres.free 3
          have f4 := hres.free 4
          have f5 := hres.free 5
          have f6 := hres.free 6
          have f7 := hres.free 7
          go_wp2
          refine bodyPost_ret (v := headV clock revision (w.heap.size + 1) da dn dc last offices g j groups) (by simp [results, Try.results15, go_sem, headV, d0, d1, d2, d3, d4, d5, d6, d7]) rfl ?_
          have R3 := fun p hp => set8_other wr w.heap.size (.int .i64 clock) (.int .u64 (revision : Int)) (.map (some (w.heap.size + 1))) (.slice da dn dc) (.int .u64 (last : Int)) (.int .u64 (offices : Int)) (.slice (some ⟨g, 0, none⟩) j j) (.int .i64 groups) p hp
          have R2 := hbel.setCell (p := ⟨w.heap.size, 0, none⟩) (Nat.le_refl _) (.int .i64 clock) |>.setCell (p := ⟨w.heap.size, 1, none⟩) (Nat.le_refl _) (.int .u64 (revision : Int)) |>.setCell (p := ⟨w.heap.size, 2, none⟩) (Nat.le_refl _) (.map (some (w.heap.size + 1)))
            |>.setCell (p := ⟨w.heap.size, 3, none⟩) (Nat.le_refl _) (.slice da dn dc) |>.setCell (p := ⟨w.heap.size, 4, none⟩) (Nat.le_refl _) (.int .u64 (last : Int)) |>.setCell (p := ⟨w.heap.size, 5, none⟩) (Nat.le_refl _) (.int .u64 (offices : Int))
            |>.setCell (p := ⟨w.heap.size, 6, none⟩) (Nat.le_refl _) (.slice (some ⟨g, 0, none⟩) j j) |>.setCell (p := ⟨w.heap.size, 7, none⟩) (Nat.le_refl _) (.int .i64 groups)
          exact ⟨⟨_, D, g, rfl, ownsMap_of_heap hmap (R3 _ (by omega)), hold, (hrow.kept (R3 _ (by omega))).leas fun i hi => ⟨(hLk i hi).1.below R2 (Nat.le_refl _), (hLk i hi).2⟩, by omega, by omega⟩, R2⟩
end Go.Proofs.Qxb6630629a
