/-
  Seat b6629374a: the walk of FnRecordsFlipOneBreach.
-/
import Derived.Test.Qxb6629374aReads
namespace Go.Proofs.Qxb6629374a
open Go.ChangeShapes Go.WideShapes Go.ChangeAt Go.RowKit

/-- Line i's mark set to x. -/
def mark (L : Nat → Ln) (i : Nat) (x : Bool) : Nat → Ln := fun k => if k = i then { L k with b := x } else L k

theorem LinesAt.mono {w w' : World} {g off n : Nat} {L : Nat → Ln} (h : LinesAt w g off n L) (hc : ∀ o, w'.cell? ⟨g, o, none⟩ = w.cell? ⟨g, o, none⟩) : LinesAt w' g off n L := by
  intro k hk
  have := h k hk
  rw [hc, hc, hc, hc, hc]
  exact this
theorem LinesAt.below {w w' : World} {B g off n : Nat} {L : Nat → Ln} (h : LinesAt w g off n L) (hb : Below B w w') (hg : g < B) : LinesAt w' g off n L :=
  h.mono fun o => hb.cell (p := ⟨g, o, none⟩) hg

theorem lines_mark {w : World} {g n i : Nat} {L : Nat → Ln} (h : LinesAt w g 0 n L) (hi : i < n) (x : Bool) : LinesAt (w.setCell ⟨g, i * 5 + 4, none⟩ (.bool x)) g 0 n (mark L i x) := by
  intro k hk
  obtain ⟨c0, c1, c2, c3, c4⟩ := h k hk
  have ho : ∀ o, o ≠ i * 5 + 4 → (w.setCell ⟨g, i * 5 + 4, none⟩ (.bool x)).cell? ⟨g, o, none⟩ = w.cell? ⟨g, o, none⟩ := fun o ho => World.cell?_setCell_other _ _ _ _ (by simp only [ne_eq, Addr.mk.injEq, true_and, and_true]; omega)
  rw [ho _ (by omega), ho _ (by omega), ho _ (by omega), ho _ (by omega)]
  by_cases hki : k = i
  · subst hki
    have e : mark L k x k = { L k with b := x } := by simp [mark]
    rw [e]
    refine ⟨c0, c1, c2, c3, ?_⟩
    rw [Nat.zero_add] at c4 ⊢
    exact World.cell?_setCell_same _ _ _ c4
  · have e : mark L i x k = L k := by simp [mark, hki]
    rw [e, ho _ (by omega)]
    exact ⟨c0, c1, c2, c3, c4⟩

theorem recT_mark (L : Nat → Ln) (i k c : Nat) (h : ¬ (k = i + 1 ∧ c = 4)) (hc : c < 5) : recT (mark L i true) k c = recT (mark L i false) k c := by
  cases k with
  | zero => rfl
  | succ k =>
    simp only [recT]
    by_cases hki : k = i
    · subst hki
      match c, hc with
      | 0, _ => simp [mark, lineT]
      | 1, _ => simp [mark, lineT]
      | 2, _ => simp [mark, lineT]
      | 3, _ => simp [mark, lineT]
      | 4, _ => exact absurd ⟨rfl, rfl⟩ h
    · simp [mark, hki]

theorem table_cell {w : World} {m : Nat} (h : w.heap.size = m) (v : Value) (t : TypeId) : (w.alloc (.cells #[v] t)).cell? ⟨m, 0, none⟩ = some v := by
  rw [← h, World.cell?_alloc_new]; rfl

set_option maxRecDepth 100000 in
set_option maxHeartbeats 6400000 in
theorem flip_in (b off n c i : Nat) (L : Nat → Ln) (w : World) (hn : n ≤ maxLen) (hb : b < w.heap.size) (hi : i < n) (hL : LinesAt w b off n L) :
    Calls Try.prog 4 #[.slice (some ⟨b, off, none⟩) n c, .int .i64 i] w fun e w' => e = .returned (.bool true) ∧ Below w.heap.size w w' := by
  have hn' := hn
  unfold maxLen at hn'
  have d1 : decide ((i : Int) < 0) = false := decide_eq_false (by omega)
  have d2 : decide ((n : Int) ≤ (i : Int)) = false := decide_eq_false (by omega)
  go_enter Try.func4, Try.ntmps4
  go_wp2_with fail
  refine (bytes11 b off n c i L w hn hL).mono ?_
  rintro _ w' ⟨⟨x, rfl⟩, rfl⟩
  cases x
  · go_wp2
    go_ret
    exact ⟨rfl, Below.refl _ _⟩
  go_wp2_with fail
  refine (tooBig b off n c L w hn hb hL).mono ?_
  rintro _ w0 ⟨⟨x, rfl, hx⟩, hb0⟩
  cases x
  rotate_left
  · go_wp2
    go_ret
    exact ⟨rfl, hb0⟩
  have hn6 := hx rfl
  clear hx
  have hL0 := hL.below hb0 hb
  have hz0 := hb0.size
  go_wp2_with fail
  refine (toLines_any b off n c L w0 (by omega) hn6 (by omega) hL0).mono ?_
  rintro _ w1 ⟨rfl, hT1, hF1, hb1⟩
  obtain ⟨_, _, _, _, hc4⟩ := hT1 i hi
  rw [Nat.zero_add] at hc4
  have hf4 := hF1 (i * 5 + 4) (by omega)
  go_wp2_with fail
  have hM1 := lines_mark hT1 hi true
  have hg1 : w0.heap.size < w1.heap.size := lt_of_cell hc4
  have hs2 : (w1.setCell ⟨w0.heap.size, i * 5 + 4, none⟩ (.bool true)).heap.size = w1.heap.size := by simp
  have hb2 : Below w0.heap.size w0 (w1.setCell ⟨w0.heap.size, i * 5 + 4, none⟩ (.bool true)) := hb1.setCell (p := ⟨w0.heap.size, _, none⟩) (Nat.le_refl _) _
  clear hT1 hF1 hb1 hc4 hf4
  generalize w1.setCell ⟨w0.heap.size, i * 5 + 4, none⟩ (.bool true) = w2 at hM1 hs2 hb2 ⊢
  have hg2 : w0.heap.size < w2.heap.size := by omega
  clear hs2 hg1
  have hL2 := hL0.below hb2 (by omega)
  have hB2 : Below w.heap.size w w2 := hb0.trans (hb2.mono hz0)
  refine (toLines_any b off n c L w2 (by omega) hn6 (by omega) hL2).mono ?_
  rintro _ w3 ⟨rfl, hT3, hF3, hb3⟩
  obtain ⟨_, _, _, _, hc4⟩ := hT3 i hi
  rw [Nat.zero_add] at hc4
  have hf4 := hF3 (i * 5 + 4) (by omega)
  go_wp2_with fail
  have hM2 := lines_mark hT3 hi false
  have hg3 : w2.heap.size < w3.heap.size := lt_of_cell hc4
  have hs4 : (w3.setCell ⟨w2.heap.size, i * 5 + 4, none⟩ (.bool false)).heap.size = w3.heap.size := by simp
  have hb4 : Below w2.heap.size w2 (w3.setCell ⟨w2.heap.size, i * 5 + 4, none⟩ (.bool false)) := hb3.setCell (p := ⟨w2.heap.size, _, none⟩) (Nat.le_refl _) _
  clear hT3 hF3 hb3 hc4 hf4
  generalize w3.setCell ⟨w2.heap.size, i * 5 + 4, none⟩ (.bool false) = w4 at hM2 hs4 hb4 ⊢
  have hg4 : w2.heap.size < w4.heap.size := by omega
  have HS4 := hide hs4
  clear hs4 hg3
  have hM1' := hM1.below hb4 hg2
  have hL4 := hL2.below hb4 (by omega)
  have hB4 : Below w.heap.size w w4 := hB2.trans (hb4.mono hB2.size)
  clear hM1 hL2 hL0 hB2 hb2 hb4
  have hsa : (w4.alloc (.cells #[.slice (some ⟨w0.heap.size, 0, none⟩) n n] 30)).heap.size = w4.heap.size + 1 := by simp
  have hba : Below w4.heap.size w4 (w4.alloc (.cells #[.slice (some ⟨w0.heap.size, 0, none⟩) n n] 30)) := (Below.refl _ _).alloc (Nat.le_refl _) _
  have hta : (w4.alloc (.cells #[.slice (some ⟨w0.heap.size, 0, none⟩) n n] 30)).cell? ⟨w3.heap.size, 0, none⟩ = some (.slice (some ⟨w0.heap.size, 0, none⟩) n n) := table_cell HS4.out _ _
  refine (records_ok w3.heap.size w0.heap.size n (mark L i true) _ hn6 hta (by omega) (hM1'.below hba (by omega))).mono ?_
  rintro _ w5 ⟨ga, capa, rwa, rfl, hRa, hb5⟩
  have hM2' := (hM2.below hba hg4).below hb5 (by omega)
  have hL5 := (hL4.below hba (by omega)).below hb5 (by omega)
  have hB5 : Below w.heap.size w w5 := (hB4.trans (hba.mono hB4.size)).trans (hb5.mono (by rw [hsa]; have := hB4.size; omega))
  have hg5 : w2.heap.size < w5.heap.size := by have := hb5.size; omega
  clear hba hta hM2 hL4 hM1' hB4 hsa hb5 HS4
  go_wp2_with fail
  have hsa : (w5.alloc (.cells #[.slice (some ⟨w2.heap.size, 0, none⟩) n n] 30)).heap.size = w5.heap.size + 1 := by simp
  have hba : Below w5.heap.size w5 (w5.alloc (.cells #[.slice (some ⟨w2.heap.size, 0, none⟩) n n] 30)) := (Below.refl _ _).alloc (Nat.le_refl _) _
  have hta : (w5.alloc (.cells #[.slice (some ⟨w2.heap.size, 0, none⟩) n n] 30)).cell? ⟨w5.heap.size, 0, none⟩ = some (.slice (some ⟨w2.heap.size, 0, none⟩) n n) := table_cell rfl _ _
  refine (records_ok w5.heap.size w2.heap.size n (mark L i false) _ hn6 hta (by omega) (hM2'.below hba hg5)).mono ?_
  rintro _ w6 ⟨gb, capb, rwb, rfl, hRb, hb6⟩
  have hb56 : Below w5.heap.size w5 w6 := hba.trans (hb6.mono (by rw [hsa]; omega))
  have hRa6 := hRa.below hb56
  have hL6 := hL5.below hb56 (by have := hB5.size; omega)
  have hB6 : Below w.heap.size w w6 := hB5.trans (hb56.mono hB5.size)
  clear hba hta hsa hb6 hb56 hRa hL5 hB5 hM2'
  have hne : ((n : Int) + 1 != (n : Int) + 1) = false := by simp
  go_wp2_with fail
  clear hne
  go_loopw [10] (fun kk wr => ∃ k m : Nat, k ≤ n + 1 ∧ kk = .int .i64 k ∧ wr = w6.drewN m) (fun kk _ => n + 1 - (intOf kk).toNat)
  case atStart => exact ⟨0, 0, Nat.zero_le _, rfl, rfl⟩
  case round =>
    obtain ⟨k, m, hk, rfl, rfl⟩ := hrel
    by_cases hlt : k < n + 1
    · have ca := hRa6.1 k hlt
      have cb := hRb.1 k hlt
      have ta := hRa6.2 k hlt
      have tb := hRb.2 k hlt
      have hq := recT_mark L i k
      generalize recT (mark L i true) k = fa at ta hq
      generalize recT (mark L i false) k = fb at tb hq
      generalize rwa k = qa at ca ta
      generalize rwb k = qb at cb tb
      have TA := hide ta
      have TB := hide tb
      have HQ := hide hq
      clear ta tb hq
      have hlk : (k : Int) ≤ (n : Int) := by omega
      go_wp2
      go_loopw [11] (fun cc wr => ∃ c' m' : Nat, c' ≤ 5 ∧ cc = .int .i64 c' ∧ wr = w6.drewN m') (fun cc _ => 5 - (intOf cc).toNat)
      case atStart => exact ⟨0, m, Nat.zero_le _, rfl, rfl⟩
      case round =>
        obtain ⟨c', m', hc', rfl, rfl⟩ := hrel
        by_cases hlc : c' < 5
        · by_cases hsp : k = i + 1 ∧ c' = 4
          · have e1 : ((k : Int) == (i : Int) + 1) = true := by rw [beq_iff_eq]; omega
            have e2 : ((c' : Int) == 4) = true := by rw [beq_iff_eq]; omega
            clear hsp
            go_wp2
            go_roundw
            case rel => exact ⟨c' + 1, _, by omega, by go_num, rfl⟩
            case measure => simp [intOf]; omega
          · have hx := HQ.out c' hsp hlc
            have xa := TA.out c' hlc
            have xb := TB.out c' hlc
            rw [hx] at xa
            generalize fb c' = x at xa xb
            clear hx
            have hlc' : (c' : Int) < 5 := by omega
            by_cases e0 : k = i + 1
            · have e1 : ((k : Int) == (i : Int) + 1) = true := by rw [beq_iff_eq]; omega
              have e2 : ((c' : Int) == 4) = false := by rw [beq_eq_false_iff_ne]; omega
              clear hsp e0
              go_wp2
              go_quiet (fail)
              go_wp2
              go_roundw
              case rel => exact ⟨c' + 1, _, by omega, by go_num, rfl⟩
              case measure => simp [intOf]; omega
            · have e1 : ((k : Int) == (i : Int) + 1) = false := by rw [beq_eq_false_iff_ne]; omega
              clear hsp e0
              go_wp2
              go_quiet (fail)
              go_wp2
              go_roundw
              case rel => exact ⟨c' + 1, _, by omega, by go_num, rfl⟩
              case measure => simp [intOf]; omega
        · clear HQ TA TB ca cb
          go_wp2
          go_roundw
          case rel => exact ⟨k + 1, _, by omega, by go_num, rfl⟩
          case measure => simp [intOf]; omega
    · obtain ⟨W, hbW, hRaW, hRbW, hLW, hW⟩ : ∃ W, Below w.heap.size w W ∧ Recs W ga (n + 1) rwa (recT (mark L i true)) ∧ Recs W gb (n + 1) rwb (recT (mark L i false)) ∧ LinesAt W b off n L ∧ w6.drewN m = W := by
        have hd : Below w6.heap.size w6 (w6.drewN m) := below_drewN (Below.refl _ _) m
        exact ⟨_, below_drewN hB6 m, hRa6.below hd, hRb.below hd, hL6.below hd (by have := hB6.size; omega), rfl⟩
      rw [hW]
      clear hW hRa6 hRb hL6 hB6
      have ca := hRaW.1 (i + 1) (by omega)
      have cb := hRbW.1 (i + 1) (by omega)
      have a0 := hRaW.2 (i + 1) (by omega) 0 (by omega)
      have a1 := hRaW.2 (i + 1) (by omega) 1 (by omega)
      have a2 := hRaW.2 (i + 1) (by omega) 2 (by omega)
      have a3 := hRaW.2 (i + 1) (by omega) 3 (by omega)
      have a4 := hRaW.2 (i + 1) (by omega) 4 (by omega)
      have b4 := hRbW.2 (i + 1) (by omega) 4 (by omega)
      obtain ⟨c0, c1, c2, c3, c4⟩ := hLW i hi
      simp only [recT, mark, if_true, lineT] at a0 a1 a2 a3 a4 b4
      generalize L i = x at a0 a1 a2 a3 c0 c1 c2 c3 c4
      obtain ⟨r, s, v, l, bb⟩ := x
      generalize rwa (i + 1) = qa at *
      generalize rwb (i + 1) = qb at *
      have hqa := lt_of_cell a0
      have hqb := lt_of_cell b4
      have hgb := lt_of_cell cb
      have hga := lt_of_cell ca
      have a4' : W.cell? ⟨qa, 4, none⟩ = some (.string ⟨#[98, 114, 101, 97, 99, 104]⟩) := a4
      have b4' : W.cell? ⟨qb, 4, none⟩ = some (.string ⟨#[111, 107]⟩) := b4
      have hil : (i : Int) < (n : Int) := by omega
      clear a4 b4 hRaW hRbW hLW
      go_wp2
      go_quiet (fail)
      go_wp2
      go_ret
      exact ⟨rfl, below_drewN (hbW.alloc hbW.size _) _⟩

set_option maxHeartbeats 1600000 in
theorem flip_out (b off n c : Nat) (i : Int) (L : Nat → Ln) (w : World) (hn : n ≤ maxLen) (hb : b < w.heap.size) (hi : i < 0 ∨ (n : Int) ≤ i) (hL : LinesAt w b off n L) :
    Calls Try.prog 4 #[.slice (some ⟨b, off, none⟩) n c, .int .i64 i] w fun e w' => e = .returned (.bool true) ∧ Below w.heap.size w w' := by
  have hn' := hn
  unfold maxLen at hn'
  go_enter Try.func4, Try.ntmps4
  go_wp2_with fail
  refine (bytes11 b off n c i L w hn hL).mono ?_
  rintro _ w' ⟨⟨x, rfl⟩, rfl⟩
  cases x
  · go_wp2
    go_ret
    exact ⟨rfl, Below.refl _ _⟩
  go_wp2_with fail
  refine (tooBig b off n c L w hn hb hL).mono ?_
  rintro _ w0 ⟨⟨x, rfl, hx⟩, hb0⟩
  clear hx
  cases x
  rotate_left
  · go_wp2
    go_ret
    exact ⟨rfl, hb0⟩
  by_cases h0 : i < 0
  · go_wp2_with fail
    go_ret
    exact ⟨rfl, hb0⟩
  · have d1 : decide (i < 0) = false := decide_eq_false h0
    have d2 : (n : Int) ≤ i := by omega
    clear hi h0
    go_wp2_with fail
    go_ret
    exact ⟨rfl, hb0⟩

set_option maxHeartbeats 1600000 in
theorem flip_0 (ao : Option Addr) (c : Nat) (i : Int) (w : World) :
    Calls Try.prog 4 #[.slice ao 0 c, .int .i64 i] w fun e w' => e = .returned (.bool true) ∧ Below w.heap.size w w' := by
  go_enter Try.func4, Try.ntmps4
  go_wp2_with fail
  refine (bytes11_0 ao c i w).mono ?_
  rintro _ w' ⟨⟨x, rfl⟩, rfl⟩
  cases x
  · go_wp2
    go_ret
    exact ⟨rfl, Below.refl _ _⟩
  go_wp2_with fail
  refine (tooBig_0 ao c w).mono ?_
  rintro _ w0 ⟨⟨x, rfl, hx⟩, hb0⟩
  clear hx
  cases x
  rotate_left
  · go_wp2
    go_ret
    exact ⟨rfl, hb0⟩
  by_cases h0 : i < 0
  · go_wp2_with fail
    go_ret
    exact ⟨rfl, hb0⟩
  · have d1 : decide (i < 0) = false := decide_eq_false h0
    have d2 : (0 : Int) ≤ i := by omega
    clear h0
    go_wp2_with fail
    go_ret
    exact ⟨rfl, hb0⟩
end Go.Proofs.Qxb6629374a
