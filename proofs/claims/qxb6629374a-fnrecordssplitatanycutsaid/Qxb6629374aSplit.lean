/-
  Seat b6629374a: the walk of FnRecordsSplitAtAnyCut.
-/
import Derived.Test.Qxb6629374aFlip
import Derived.Deep.RegionWith
namespace Go.Proofs.Qxb6629374a
open Go.ChangeShapes Go.WideShapes Go.ChangeAt Go.RowKit

/-- Where there is a line the lines lie at a. -/
def Src (w : World) (a : Addr) (n : Nat) (L : Nat → Ln) : Prop := 0 < n → ∃ b off, a = ⟨b, off, none⟩ ∧ b < w.heap.size ∧ LinesAt w b off n L

theorem Src.below {w w' : World} {a : Addr} {n : Nat} {L : Nat → Ln} (h : Src w a n L) {B : Nat} (hB : w.heap.size ≤ B) (hb : Below B w w') : Src w' a n L := by
  intro h0
  obtain ⟨b, off, rfl, hlt, hL⟩ := h h0
  exact ⟨b, off, rfl, Nat.lt_of_lt_of_le hlt hb.size, hL.below hb (by omega)⟩

theorem bytes5_s (a : Addr) (n c : Nat) (i : Int) (L : Nat → Ln) (w : World) (hn : n ≤ maxLen) (hL : Src w a n L) :
    Calls Try.prog 5 #[.slice (some a) n c, .int .i64 i] w fun e w' => IsB e ∧ w = w' := by
  by_cases h0 : 0 < n
  · obtain ⟨b, off, rfl, _, hL⟩ := hL h0
    exact bytes5 b off n c i L w hn hL
  · obtain rfl : n = 0 := by omega
    exact bytes5_0 (some a) c i w

theorem tooBig_s (a : Addr) (n c : Nat) (L : Nat → Ln) (w : World) (hn : n ≤ maxLen) (hL : Src w a n L) :
    Calls Try.prog 6 #[.slice (some a) n c] w fun e w' => BigB n e ∧ Below w.heap.size w w' := by
  by_cases h0 : 0 < n
  · obtain ⟨b, off, rfl, hb, hL⟩ := hL h0
    exact tooBig b off n c L w hn hb hL
  · obtain rfl : n = 0 := by omega
    exact tooBig_0 (some a) c w

theorem toLines_s (a : Addr) (n c : Nat) (L : Nat → Ln) (w : World) (hn : n ≤ 65536) (hL : Src w a n L) :
    Calls Try.prog 7 #[.slice (some a) n c] w fun e w' => e = .returned (.slice (some ⟨w.heap.size, 0, none⟩) n n) ∧ w.heap.size < w'.heap.size ∧ LinesAt w' w.heap.size 0 n L ∧ Below w.heap.size w w' := by
  by_cases h0 : 0 < n
  · obtain ⟨b, off, rfl, hb, hL⟩ := hL h0
    refine (toLines_any b off n c L w h0 hn hb hL).mono ?_
    rintro e w' ⟨he, hT, _, hb'⟩
    exact ⟨he, lt_of_cell (hT 0 h0).1, hT, hb'⟩
  · obtain rfl : n = 0 := by omega
    refine (toLines_0 a c w).mono ?_
    rintro e w' ⟨he, hlt, hb'⟩
    exact ⟨he, hlt, fun k hk => absurd hk (Nat.not_lt_zero _), hb'⟩

theorem reads_s (a : Addr) (g n cap c : Nat) (rw : Nat → Nat) (L : Nat → Ln) (w : World) (hn : n ≤ 65536) (hR : Recs w g (n + 1) rw (recT L)) (hL : Src w a n L) :
    Calls Try.prog 9 #[.slice (some ⟨g, 0, none⟩) (n + 1) cap, .slice (some a) n c] w fun e w' => e = .returned (.bool true) ∧ Below w.heap.size w w' := by
  by_cases h0 : 0 < n
  · obtain ⟨b, off, rfl, hb, hL⟩ := hL h0
    exact reads_ok g b off n cap c rw L w hn hb hR hL
  · obtain rfl : n = 0 := by omega
    exact reads_0 (some a) g cap c rw L w hR

def shift (L : Nat → Ln) (d : Nat) : Nat → Ln := fun k => L (d + k)
theorem recT_shift (L : Nat → Ln) (d j : Nat) (hj : 1 ≤ j) : recT (shift L d) j = recT L (d + j) := by
  cases j with
  | zero => omega
  | succ k => rfl

theorem Src.left {w : World} {a : Addr} {m r : Nat} {L : Nat → Ln} (h : Src w a (m + r) L) : Src w a m L := by
  intro h0
  obtain ⟨b, off, rfl, hlt, hL⟩ := h (by omega)
  exact ⟨b, off, rfl, hlt, fun k hk => hL k (by omega)⟩
theorem Src.right {w : World} {a : Addr} {m r : Nat} {L : Nat → Ln} (h : Src w a (m + r) L) : Src w (a.add (m * 5)) r (shift L m) := by
  intro h0
  obtain ⟨b, off, rfl, hlt, hL⟩ := h (by omega)
  refine ⟨b, off + m * 5, by rw [add_plain], hlt, fun k hk => ?_⟩
  have := hL (m + k) (by omega)
  have e : off + m * 5 + k * 5 = off + (m + k) * 5 := by omega
  rw [e]
  exact this

/-- Records of the table that has just been boxed. -/
theorem tabled (g n : Nat) (L : Nat → Ln) (w1 : World) (hn : n ≤ 65536) (hg : g < w1.heap.size) (hL : LinesAt w1 g 0 n L) :
    Calls Try.prog 8 #[.pointer (some ⟨w1.heap.size, 0, none⟩)] (w1.alloc (.cells #[.slice (some ⟨g, 0, none⟩) n n] 30)) (RecsEnd L n w1) := by
  have hba : Below w1.heap.size w1 (w1.alloc (.cells #[.slice (some ⟨g, 0, none⟩) n n] 30)) := (Below.refl _ _).alloc (Nat.le_refl _) _
  refine (records_ok w1.heap.size g n L _ hn (table_cell rfl _ _) (by simp; omega) (hL.below hba hg)).mono ?_
  rintro e w' ⟨g', cap, rw, he, hR, hb⟩
  exact ⟨g', cap, rw, he, hR, hba.trans (hb.mono (by simp))⟩

/-- The three tables' records, as a loop of the law keeps them. -/
structure Three (w : World) (gw gl gr m r : Nat) (rww rwl rwr : Nat → Nat) (L : Nat → Ln) (wr : World) : Prop where
  hw : Recs wr gw (m + r + 1) rww (recT L)
  hl : Recs wr gl (m + 1) rwl (recT L)
  hr : Recs wr gr (r + 1) rwr (recT (shift L m))
  hb : Below w.heap.size w wr
theorem Three.drewN {w : World} {gw gl gr m r : Nat} {rww rwl rwr : Nat → Nat} {L : Nat → Ln} {wr : World} (h : Three w gw gl gr m r rww rwl rwr L wr) (n : Nat) : Three w gw gl gr m r rww rwl rwr L (wr.drewN n) :=
  ⟨h.hw.below (below_drewN (Below.refl _ _) n), h.hl.below (below_drewN (Below.refl _ _) n), h.hr.below (below_drewN (Below.refl _ _) n), below_drewN h.hb n⟩

set_option maxRecDepth 100000 in
set_option maxHeartbeats 6400000 in
theorem split_in (a : Addr) (m r c : Nat) (L : Nat → Ln) (w : World) (hn : m + r ≤ maxLen) (hc : m + r ≤ c) (hL : Src w a (m + r) L) :
    Calls Try.prog 3 #[.slice (some a) (m + r) c, .int .i64 m] w fun e w' => e = .returned (.bool true) ∧ Below w.heap.size w w' := by
  have hn' := hn
  unfold maxLen at hn'
  have d1 : decide ((m : Int) < 0) = false := decide_eq_false (by omega)
  have d2 : decide ((m : Int) + (r : Int) < (m : Int)) = false := decide_eq_false (by omega)
  go_enter Try.func3, Try.ntmps3
  go_wp2_with fail
  refine (bytes5_s a (m + r) c m L w hn hL).mono ?_
  rintro _ w' ⟨⟨x, rfl⟩, rfl⟩
  cases x
  · go_wp2
    go_ret
    exact ⟨rfl, Below.refl _ _⟩
  go_wp2_with fail
  refine (tooBig_s a (m + r) c L w hn hL).mono ?_
  rintro _ w0 ⟨⟨x, rfl, hx⟩, hb0⟩
  cases x
  rotate_left
  · go_wp2
    go_ret
    exact ⟨rfl, hb0⟩
  have hn6 := hx rfl
  clear hx
  have hL0 := hL.below (Nat.le_refl _) hb0
  go_wp2_with fail
  refine (toLines_s a (m + r) c L w0 hn6 hL0).mono ?_
  rintro _ w1 ⟨rfl, hg1, hT1, hb1⟩
  go_wp2_with fail
  refine (tabled w0.heap.size (m + r) L w1 hn6 hg1 hT1).mono ?_
  rintro _ w2 ⟨gw, capw, rww, rfl, hRw, hb2⟩
  have hB2 : Below w0.heap.size w0 w2 := hb1.trans (hb2.mono (by omega))
  have hL2 := hL0.below (Nat.le_refl _) hB2
  clear hT1 hg1 hb1 hb2
  go_wp2_with fail
  refine (toLines_s a m c L w2 (by omega) hL2.left).mono ?_
  rintro _ w3 ⟨rfl, hg3, hT3, hb3⟩
  have hRw3 := hRw.below hb3
  go_wp2_with fail
  refine (tabled w2.heap.size m L w3 (by omega) hg3 hT3).mono ?_
  rintro _ w4 ⟨gl, capl, rwl, rfl, hRl, hb4⟩
  have hB4 : Below w2.heap.size w2 w4 := hb3.trans (hb4.mono (by omega))
  have hL4 := hL2.below (Nat.le_refl _) hB4
  have hRw4 := hRw3.below hb4
  clear hT3 hg3 hb3 hb4 hRw hRw3
  have hS : Hid (∀ A, A = (if c = m then a else a.add (m * 5)) → Src w4 A r (shift L m)) := by
    intro A hA
    by_cases hcm : c = m
    · intro h0; omega
    · rw [if_neg hcm] at hA; rw [hA]; exact hL4.right
  have hB4' : Below w.heap.size w w4 := (hb0.trans (hB2.mono hb0.size)).trans (hB4.mono (by have := hb0.size; have := hB2.size; omega))
  clear hB2 hB4 hL2 hL0
  by_cases hcm : c = m
  all_goals
    go_wp2_with fail
    refine (toLines_s _ r _ (shift L m) w4 (by omega) (hS.out _ (by simp [hcm]))).mono ?_
    rintro _ w5 ⟨rfl, hg5, hT5, hb5⟩
    have hRw5 := hRw4.below hb5
    have hRl5 := hRl.below hb5
    have hL5 := hL4.below (Nat.le_refl _) hb5
    go_wp2_with fail
    refine (tabled w4.heap.size r (shift L m) w5 (by omega) hg5 hT5).mono ?_
    rintro _ w6 ⟨gr, capr, rwr, rfl, hRr, hb6⟩
    have hB6 : Below w4.heap.size w4 w6 := hb5.trans (hb6.mono (by omega))
    have hRw6 := hRw5.below hb6
    have hRl6 := hRl5.below hb6
    have hL6 := hL4.below (Nat.le_refl _) hB6
    have hBB : Below w.heap.size w w6 := hB4'.trans (hB6.mono hB4'.size)
    clear hT5 hg5 hb5 hb6 hRw5 hRl5 hL5 hRw4 hRl hL4 hS hB6 hB4'
    go_wp2_with fail
    refine (reads_s a gw (m + r) capw _ rww L w6 hn6 hRw6 hL6).mono ?_
    rintro _ w7 ⟨rfl, hb7⟩
    have hRw := hRw6.below hb7
    have hRl := hRl6.below hb7
    have hRr := hRr.below hb7
    have hB7 : Below w.heap.size w w7 := hBB.trans (hb7.mono hBB.size)
    clear hRw6 hRl6 hL6 hBB hb7
    have q1 : decide ((m : Int) + 1 < 1) = false := decide_eq_false (by omega)
    have q2 : decide ((r : Int) + 1 < 1) = false := decide_eq_false (by omega)
    have q3 : ((m : Int) + (r : Int) + 1 != (m : Int) + 1 + ((r : Int) + 1) - 1) = false := by rw [bne_eq_false_iff_eq]; omega
    have cl := hRl.1 0 (by omega)
    have cw := hRw.1 0 (by omega)
    have cr := hRr.1 0 (by omega)
    have tl := hide (hRl.2 0 (by omega))
    have tw := hide (hRw.2 0 (by omega))
    have tr := hide (hRr.2 0 (by omega))
    have s1 := hide (fun (W : World) (hW : ∀ p, W.cell? p = w7.cell? p) => same_ok (rwl 0) (rww 0) headT W (fun c hc => (hW _).trans (tl.out c hc)) (fun c hc => (hW _).trans (tw.out c hc)))
    have s2 := hide (fun (W : World) (hW : ∀ p, W.cell? p = w7.cell? p) => same_ok (rwr 0) (rww 0) headT W (fun c hc => (hW _).trans (tr.out c hc)) (fun c hc => (hW _).trans (tw.out c hc)))
    generalize rwl 0 = ql at cl s1
    generalize rwr 0 = qr at cr s2
    generalize rww 0 = qw at cw s1 s2
    clear tl tw tr
    have z1 : (0 : Int) < (m : Int) + 1 := by omega
    have z2 : (0 : Int) < (r : Int) + 1 := by omega
    have z3 : (0 : Int) < (m : Int) + (r : Int) + 1 := by omega
    go_wp2_with fail
    go_quiet (first | (go_at_call_of 10 (Value.slice (some ⟨ql, 0, none⟩) 5 5); exact Calls.quiet_of (s1.out _ (fun _ => rfl))) | (go_at_call_of 10 (Value.slice (some ⟨qr, 0, none⟩) 5 5); exact Calls.quiet_of (s2.out _ (fun _ => rfl))))
    clear q1 q2 q3 cl cw cr s1 s2 z1 z2 z3
    have h3 : Three w gw gl gr m r rww rwl rwr L w7 := ⟨hRw, hRl, hRr, hB7⟩
    clear hRw hRl hRr hB7
    go_wp2
    go_loopw [8] (fun kk wr => ∃ j : Nat, 1 ≤ j ∧ j ≤ m + 1 ∧ kk = .int .i64 j ∧ Three w gw gl gr m r rww rwl rwr L wr) (fun kk _ => m + 1 - (intOf kk).toNat)
    case atStart => exact ⟨1, by omega, by omega, rfl, h3.drewN _⟩
    case round =>
      clear h3
      obtain ⟨j, hj1, hj2, rfl, h3⟩ := hrel
      by_cases hlt : j < m + 1
      · have cl := h3.hl.1 j (by omega)
        have cw := h3.hw.1 j (by omega)
        have s1 := hide (fun (W : World) (hW : ∀ p, W.cell? p = wr.cell? p) => same_ok (rwl j) (rww j) (recT L j) W (fun c hc => (hW _).trans (h3.hl.2 j (by omega) c hc)) (fun c hc => (hW _).trans (h3.hw.2 j (by omega) c hc)))
        generalize rwl j = ql at cl s1
        generalize rww j = qw at cw s1
        have z1 : (j : Int) < (m : Int) + 1 := by omega
        have z3 : (j : Int) < (m : Int) + (r : Int) + 1 := by omega
        go_wp2
        go_quiet ((go_at_call 10; exact Calls.quiet_of (s1.out _ (fun _ => rfl))))
        go_wp2
        go_roundw
        case rel => exact ⟨j + 1, by omega, by omega, by go_num, h3.drewN _⟩
        case measure => simp [intOf]; omega
      · go_wp2
        go_loopw [9] (fun kk wr => ∃ j : Nat, 1 ≤ j ∧ j ≤ r + 1 ∧ kk = .int .i64 j ∧ Three w gw gl gr m r rww rwl rwr L wr) (fun kk _ => r + 1 - (intOf kk).toNat)
        case atStart => exact ⟨1, by omega, by omega, rfl, h3⟩
        case round =>
          clear hlt hj1 hj2 h3
          obtain ⟨j, hj1, hj2, rfl, h3⟩ := hrel
          by_cases hlt : j < r + 1
          · have cr := h3.hr.1 j (by omega)
            have cw := h3.hw.1 (m + j) (by omega)
            have tr := h3.hr.2 j (by omega)
            rw [recT_shift L m j hj1] at tr
            have s1 := hide (fun (W : World) (hW : ∀ p, W.cell? p = wr.cell? p) => same_ok (rwr j) (rww (m + j)) (recT L (m + j)) W (fun c hc => (hW _).trans (tr c hc)) (fun c hc => (hW _).trans (h3.hw.2 (m + j) (by omega) c hc)))
            clear tr
            generalize rwr j = qr at cr s1
            generalize rww (m + j) = qw at cw s1
            have z1 : (j : Int) < (r : Int) + 1 := by omega
            have z3 : (m : Int) + (j : Int) < (m : Int) + (r : Int) + 1 := by omega
            go_wp2
            go_quiet ((go_at_call 10; exact Calls.quiet_of (s1.out _ (fun _ => rfl))))
            go_wp2
            go_roundw
            case rel => exact ⟨j + 1, by omega, by omega, by go_num, h3.drewN _⟩
            case measure => simp [intOf]; omega
          · go_wp2
            go_ret
            exact ⟨rfl, h3.hb⟩
end Go.Proofs.Qxb6629374a
