/-
  Seat b6629374a: the walk of FnRecordsSplitAtAnyCut: the nil slice; a cut out of range.
-/
import Derived.Test.Qxb6629374aSplit
namespace Go.Proofs.Qxb6629374a
open Go.ChangeShapes Go.WideShapes Go.ChangeAt Go.RowKit

theorem tabled_nil (L : Nat → Ln) (w1 : World) :
    Calls Try.prog 8 #[.pointer (some ⟨w1.heap.size, 0, none⟩)] (w1.alloc (.cells #[.slice none 0 0] 30)) (RecsEnd L 0 w1) := by
  have hba : Below w1.heap.size w1 (w1.alloc (.cells #[.slice none 0 0] 30)) := (Below.refl _ _).alloc (Nat.le_refl _) _
  refine (records_nil w1.heap.size L _ (table_cell rfl _ _)).mono ?_
  rintro e w' ⟨g', cap, rw, he, hR, hb⟩
  exact ⟨g', cap, rw, he, hR, hba.trans (hb.mono (by simp))⟩

theorem reads_nil (g cap : Nat) (rw : Nat → Nat) (L : Nat → Ln) (w : World) (hR : Recs w g (0 + 1) rw (recT L)) :
    Calls Try.prog 9 #[.slice (some ⟨g, 0, none⟩) 1 cap, .slice none 0 0] w fun e w' => e = .returned (.bool true) ∧ Below w.heap.size w w' :=
  reads_0 none g cap 0 rw L w hR

set_option maxRecDepth 100000 in
set_option maxHeartbeats 6400000 in
theorem split_nil (L : Nat → Ln) (w : World) :
    Calls Try.prog 3 #[.slice none 0 0, .int .i64 0] w fun e w' => e = .returned (.bool true) ∧ Below w.heap.size w w' := by
  go_enter Try.func3, Try.ntmps3
  go_wp2_with fail
  refine (bytes5_0 none 0 0 w).mono ?_
  rintro _ w' ⟨⟨x, rfl⟩, rfl⟩
  cases x
  · go_wp2
    go_ret
    exact ⟨rfl, Below.refl _ _⟩
  go_wp2_with fail
  refine (tooBig_0 none 0 w).mono ?_
  rintro _ w0 ⟨⟨x, rfl, hx⟩, hb0⟩
  clear hx
  cases x
  rotate_left
  · go_wp2
    go_ret
    exact ⟨rfl, hb0⟩
  go_wp2_with fail
  refine (toLines_nil w0).mono ?_
  rintro _ w1 ⟨rfl, rfl⟩
  go_wp2_with fail
  refine (tabled_nil L w0).mono ?_
  rintro _ w2 ⟨gw, capw, rww, rfl, hRw, hb2⟩
  have hB2 : Below w.heap.size w w2 := hb0.trans (hb2.mono hb0.size)
  clear hb2
  go_wp2_with fail
  refine (toLines_nil w2).mono ?_
  rintro _ w3 ⟨rfl, rfl⟩
  go_wp2_with fail
  refine (tabled_nil L w2).mono ?_
  rintro _ w4 ⟨gl, capl, rwl, rfl, hRl, hb4⟩
  have hB4 : Below w.heap.size w w4 := hB2.trans (hb4.mono hB2.size)
  have hRw4 := hRw.below hb4
  clear hb4 hRw hB2
  go_wp2_with fail
  refine (toLines_nil w4).mono ?_
  rintro _ w5 ⟨rfl, rfl⟩
  go_wp2_with fail
  refine (tabled_nil L w4).mono ?_
  rintro _ w6 ⟨gr, capr, rwr, rfl, hRr, hb6⟩
  have hB6 : Below w.heap.size w w6 := hB4.trans (hb6.mono hB4.size)
  have hRw6 := hRw4.below hb6
  have hRl6 := hRl.below hb6
  clear hb6 hRw4 hRl hB4
  go_wp2_with fail
  refine (reads_nil gw capw rww L w6 hRw6).mono ?_
  rintro _ w7 ⟨rfl, hb7⟩
  have hRw := hRw6.below hb7
  have hRl := hRl6.below hb7
  have hRr := hRr.below hb7
  have hB7 : Below w.heap.size w w7 := hB6.trans (hb7.mono hB6.size)
  clear hRw6 hRl6 hB6 hb7
  have cl := hRl.1 0 (by omega)
  have cw := hRw.1 0 (by omega)
  have cr := hRr.1 0 (by omega)
  have s1 := hide (fun (W : World) (hW : ∀ p, W.cell? p = w7.cell? p) => same_ok (rwl 0) (rww 0) headT W (fun c hc => (hW _).trans (hRl.2 0 (by omega) c hc)) (fun c hc => (hW _).trans (hRw.2 0 (by omega) c hc)))
  have s2 := hide (fun (W : World) (hW : ∀ p, W.cell? p = w7.cell? p) => same_ok (rwr 0) (rww 0) headT W (fun c hc => (hW _).trans (hRr.2 0 (by omega) c hc)) (fun c hc => (hW _).trans (hRw.2 0 (by omega) c hc)))
  generalize rwl 0 = ql at cl s1
  generalize rwr 0 = qr at cr s2
  generalize rww 0 = qw at cw s1 s2
  clear hRw hRl hRr
  go_wp2_with fail
  go_quiet (first | (go_at_call_of 10 (Value.slice (some ⟨ql, 0, none⟩) 5 5); exact Calls.quiet_of (s1.out _ (fun _ => rfl))) | (go_at_call_of 10 (Value.slice (some ⟨qr, 0, none⟩) 5 5); exact Calls.quiet_of (s2.out _ (fun _ => rfl))))
  clear cl cw cr s1 s2
  go_wp2
  go_loop [8] (fun kk => kk = .int .i64 1) (fun _ => 0)
  case atStart => exact rfl
  case round =>
    obtain rfl := hrel
    go_wp2
    go_loop [9] (fun kk => kk = .int .i64 1) (fun _ => 0)
    case atStart => exact rfl
    case round =>
      obtain rfl := hrel
      go_wp2
      go_ret
      exact ⟨rfl, below_drewN hB7 _⟩

set_option maxHeartbeats 1600000 in
theorem split_out (a : Addr) (n c : Nat) (i : Int) (L : Nat → Ln) (w : World) (hn : n ≤ maxLen) (hi : i < 0 ∨ (n : Int) < i) (hL : Src w a n L) :
    Calls Try.prog 3 #[.slice (some a) n c, .int .i64 i] w fun e w' => e = .returned (.bool true) ∧ Below w.heap.size w w' := by
  have hn' := hn
  unfold maxLen at hn'
  go_enter Try.func3, Try.ntmps3
  go_wp2_with fail
  refine (bytes5_s a n c i L w hn hL).mono ?_
  rintro _ w' ⟨⟨x, rfl⟩, rfl⟩
  cases x
  · go_wp2
    go_ret
    exact ⟨rfl, Below.refl _ _⟩
  go_wp2_with fail
  refine (tooBig_s a n c L w hn hL).mono ?_
  rintro _ w0 ⟨⟨x, rfl, hx⟩, hb0⟩
  clear hx
  cases x
  rotate_left
  · go_wp2
    go_ret
    exact ⟨rfl, hb0⟩
  by_cases h0 : i < 0
  · go_wp2_with fail
    go_ret
    exact ⟨rfl, hb0⟩
  · have d1 : decide (i < 0) = false := decide_eq_false h0
    have d2 : (n : Int) < i := by omega
    clear hi h0
    go_wp2_with fail
    go_ret
    exact ⟨rfl, hb0⟩

set_option maxHeartbeats 1600000 in
theorem split_nil_out (i : Int) (w : World) (hi : i < 0 ∨ 0 < i) :
    Calls Try.prog 3 #[.slice none 0 0, .int .i64 i] w fun e w' => e = .returned (.bool true) ∧ Below w.heap.size w w' := by
  go_enter Try.func3, Try.ntmps3
  go_wp2_with fail
  refine (bytes5_0 none 0 i w).mono ?_
  rintro _ w' ⟨⟨x, rfl⟩, rfl⟩
  cases x
  · go_wp2
    go_ret
    exact ⟨rfl, Below.refl _ _⟩
  go_wp2_with fail
  refine (tooBig_0 none 0 w).mono ?_
  rintro _ w0 ⟨⟨x, rfl, hx⟩, hb0⟩
  clear hx
  cases x
  rotate_left
  · go_wp2
    go_ret
    exact ⟨rfl, hb0⟩
  by_cases h0 : i < 0
  · go_wp2_with fail
    go_ret
    exact ⟨rfl, hb0⟩
  · have d1 : decide (i < 0) = false := decide_eq_false h0
    have d2 : 0 < i := by omega
    clear hi h0
    go_wp2_with fail
    go_ret
    exact ⟨rfl, hb0⟩
end Go.Proofs.Qxb6629374a
