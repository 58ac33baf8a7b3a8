/-
  Seat b6630629a: the walk of (Head).Size.
-/
import Derived.Test.Qxb6630629aBuild
import Derived.Deep.RegionWith
namespace Go.Proofs.Qxb6630629a
open Go.ChangeShapes Go.WideShapes Go.ChangeAt Go.RowKit Plain Go.Maps

theorem uv16q (x : Nat) (hx : x < 18446744073709551616) (w : World) :
    Calls Try.prog 16 #[.int .u64 (x : Int)] w fun e w' => e = .returned (.int .i64 (uv x : Nat)) ∧ w' = w := (uv16 x hx w).mono fun _ _ ⟨a, b⟩ => ⟨a, b.symm⟩
theorem uv16w (x : Int) (w : World) :
    Calls Try.prog 16 #[.int .u64 (IntKind.u64.wrap x)] w fun e w' => e = .returned (.int .i64 (uv (IntKind.u64.wrap x).toNat : Nat)) ∧ w' = w := by
  have h := wrap_range x
  obtain ⟨y, hy⟩ := Int.eq_ofNat_of_zero_le h.1
  rw [hy]
  exact uv16q y (by omega) w
theorem uv16z (w : World) : Calls Try.prog 16 #[.int .u64 0] w fun e w' => e = .returned (.int .i64 (uv 0 : Nat)) ∧ w' = w := uv16q 0 (by omega) w
theorem zz17q (n : Int) (w : World) : Calls Try.prog 17 #[.int .i64 (n : Int)] w fun e w' => e = .returned (.int .u64 (zz n : Nat)) ∧ w' = w := (zz17 n w).mono fun _ _ ⟨a, b⟩ => ⟨a, b.symm⟩
theorem fs18q (n : Nat) (w : World) : Calls Try.prog 18 #[.int .i64 (n : Int)] w fun e w' => e = .returned (.int .i64 (wrap64 (fs n : Nat))) ∧ w' = w := (fs18 n w).mono fun _ _ ⟨a, b⟩ => ⟨a, b.symm⟩
theorem ttl19q (n : Int) (w : World) : Calls Try.prog 19 #[.int .i64 (n : Int)] w fun e w' => e = .returned (.int .u64 (tm n : Nat)) ∧ w' = w := (ttl19 n w).mono fun _ _ ⟨a, b⟩ => ⟨a, b.symm⟩
theorem wrapEq (x : Int) : IntKind.i64.wrap x = wrap64 x := by rw [IntKind.wrap_i64, wrap64]

theorem invK9 (key : Value) (kl : Lit) (h : keyOf Try.prog 9 key = some kl) : ∃ x, key = .string x := by
  rw [keyOf_string Try.underlying9] at h
  cases key <;> simp [mapKey, Try.underlying9] at h
  exact ⟨_, rfl⟩
theorem key_of {x : ByteArray} {kl : Lit} (h : keyOf Try.prog 9 (.string x) = some kl) : kl = .string x.data.toList ∧ x.size ≤ maxLen := by
  rw [keyOf_string Try.underlying9] at h
  simp [mapKey, Try.underlying9] at h
  exact ⟨h.2.symm, h.1⟩
theorem invV (v : Value) (y : DU × List MemPlace) (h : mapR v = some y) : ∃ c : Elm, v = c.val := by
  obtain ⟨x, e, _⟩ := mapR_inv h
  exact ⟨x, e⟩
theorem val_of {c : Elm} {y : DU × List MemPlace} (h : mapR c.val = some y) : c.r < 18446744073709551616 ∧ y.1 = .lit (.int .i64 ((uv c.r + fs c.l : Nat) : Int)) := by
  obtain ⟨x, e, hr, hy⟩ := mapR_inv h
  obtain ⟨a, l, cc, r⟩ := c
  obtain ⟨a', l', cc', r'⟩ := x
  simp only [Elm.val, Value.agg.injEq, Array.mk.injEq, List.cons.injEq, Value.slice.injEq, Value.int.injEq] at e
  obtain ⟨⟨rfl, rfl, rfl⟩, ⟨_, er⟩, _⟩ := e
  obtain rfl : r = r' := by omega
  exact ⟨hr, by rw [hy]⟩

/-- The first k texts' fields. -/
def dsum (S : Nat → ByteArray) : Nat → Nat
  | 0 => 0
  | k + 1 => dsum S k + fs (S k).size
/-- A lease's bytes. -/
def les (l : Le) : Nat := uv l.id + uv (tm l.ttl) + uv l.rn + uv (u64n l.kn) + dsum l.ks l.kn
/-- The first k leases' bytes. -/
def lsum (L : Nat → Le) : Nat → Nat
  | 0 => 0
  | k + 1 => lsum L k + les (L k)
/-- What Size has counted ahead of the leases. -/
def base2 (T : Int) (S : Nat → ByteArray) (dn last offices ln : Nat) : Int := T + ((dsum S dn : Nat) : Int) + (((uv last : Nat) : Int) + ((uv offices : Nat) : Int) + ((uv (IntKind.u64.wrap (ln : Int)).toNat : Nat) : Int))
/-- What Size counts ahead of its loops. -/
def base1 (clock : Int) (revision n dn : Nat) (groups : Int) : Int :=
  1 + ((uv (zz clock) : Nat) : Int) + ((uv revision : Nat) : Int) + ((uv (IntKind.u64.wrap (n : Int)).toNat : Nat) : Int) + ((uv 0 : Nat) : Int) + ((uv (IntKind.u64.wrap (dn : Int)).toNat : Nat) : Int) + ((uv (IntKind.u64.wrap groups).toNat : Nat) : Int)

/-- What Size counts in all. -/
def szOf (clock : Int) (revision n dn : Nat) (groups : Int) (S : Nat → ByteArray) (last offices ln : Nat) (L : Nat → Le) (E : Nat → En) : Int :=
  base2 (base1 clock revision n dn groups + ((esum E n : Nat) : Int)) S dn last offices ln + ((lsum L ln : Nat) : Int)

set_option maxRecDepth 100000 in
set_option maxHeartbeats 6400000 in
theorem size11 (clock : Int) (revision mb : Nat) (da : Option Addr) (dn dc : Nat) (S : Nat → ByteArray) (last offices g ln : Nat) (L : Nat → Le) (groups : Int) (n : Nat) (D : DU) (E : Nat → En) (w : World)
    (hdn : dn ≤ 1048576) (hln : ln ≤ 1048576) (hkn : ∀ j, j < ln → (L j).kn ≤ 1048576) (hrevision : revision < 18446744073709551616) (hlast : last < 18446744073709551616) (hoffices : offices < 18446744073709551616)
    (hown : w.ownsMap Try.prog 9 mapR mb n D) (hold : Holds D E n) (hS : StrsAt w da dn S) (hL : LeasAt w (some ⟨g, 0, none⟩) ln L) :
    Calls Try.prog 11 #[headV clock revision mb da dn dc last offices g ln groups] w
      fun e w' => e = .returned (.int .i64 (wrap64 (szOf clock revision n dn groups S last offices ln L E))) ∧ Below w.heap.size w w' := by
  obtain ⟨z, hz, h17, HZ⟩ : ∃ z, z < 18446744073709551616 ∧ Hid (∀ w : World, Calls Try.prog 17 #[.int .i64 clock] w fun e w' => e = .returned (.int .u64 (z : Nat)) ∧ w' = w) ∧ Hid (z = zz clock) := ⟨zz clock, zz_lt clock, zz17q clock, rfl⟩
  have HKN := hide hkn
  have HOLD := hide hold
  clear hkn
  unfold headV
  go_enter Try.func11, Try.ntmps11
  go_wp2_with fail
  obtain ⟨W, e0, e1, e2, e3, e4, e5, e6, e7, hownW, hSW, hLW, hbW, hW⟩ : ∃ W : World, W.cell? ⟨w.heap.size, 0, none⟩ = some (.int .i64 clock) ∧ W.cell? ⟨w.heap.size, 1, none⟩ = some (.int .u64 (revision : Int)) ∧ W.cell? ⟨w.heap.size, 2, none⟩ = some (.map (some mb)) ∧ W.cell? ⟨w.heap.size, 3, none⟩ = some (.slice da dn dc) ∧
      W.cell? ⟨w.heap.size, 4, none⟩ = some (.int .u64 (last : Int)) ∧ W.cell? ⟨w.heap.size, 5, none⟩ = some (.int .u64 (offices : Int)) ∧ W.cell? ⟨w.heap.size, 6, none⟩ = some (.slice (some ⟨g, 0, none⟩) ln ln) ∧ W.cell? ⟨w.heap.size, 7, none⟩ = some (.int .i64 groups) ∧
      W.ownsMap Try.prog 9 mapR mb n D ∧ StrsAt W da dn S ∧ LeasAt W (some ⟨g, 0, none⟩) ln L ∧ Below w.heap.size w W ∧ w.alloc (.cells #[.int .i64 clock, .int .u64 (revision : Int), .map (some mb), .slice da dn dc, .int .u64 (last : Int), .int .u64 (offices : Int), .slice (some ⟨g, 0, none⟩) ln ln, .int .i64 groups] 38) = W := by
    have hb : Below w.heap.size w (w.alloc (.cells #[.int .i64 clock, .int .u64 (revision : Int), .map (some mb), .slice da dn dc, .int .u64 (last : Int), .int .u64 (offices : Int), .slice (some ⟨g, 0, none⟩) ln ln, .int .i64 groups] 38)) := (Below.refl _ _).alloc (Nat.le_refl _) _
    exact ⟨_, by rw [World.cell?_alloc_new]; rfl, by rw [World.cell?_alloc_new]; rfl, by rw [World.cell?_alloc_new]; rfl, by rw [World.cell?_alloc_new]; rfl, by rw [World.cell?_alloc_new]; rfl, by rw [World.cell?_alloc_new]; rfl, by rw [World.cell?_alloc_new]; rfl, by rw [World.cell?_alloc_new]; rfl,
      hown.alloc _, hS.below hb (Nat.le_refl _), hL.below hb (Nat.le_refl _), hb, rfl⟩
  try rw [hW]
  have HLW := hide hLW
  have HSW := hide hSW
  clear hW hown hS hL hold hLW hSW
  have hcount := HOLD.out.count
  have hlen : ∀ (m : Nat) (ty : TypeId), (Builtin.len_ #[33] ty #[.map (some mb)]).run Try.prog (W.drewN m) = .ok (.int .i64 (n : Int)) (W.drewN m) := fun m ty => by
    have := World.ownsMap.len (w := W.drewN m) hownW Try.underlying33 ty
    rw [hcount] at this
    exact this
  clear hcount
  refine wp_region_quiet_lit (by kernel_rfl) (by kernel_rfl) ?_
  iterate 29 (quiet_step (first | (go_at_call 17; exact Calls.quiet_of_same (h17.out _)) | (go_at_call_of 16 (Value.int IntKind.u64 (↑z)); exact Calls.quiet_of_same (uv16q _ hz _)) | (go_at_call_of 16 (Value.int IntKind.u64 (↑revision)); exact Calls.quiet_of_same (uv16q _ hrevision _)) | (go_at_call_of 16 (Value.int IntKind.u64 0); exact Calls.quiet_of_same (uv16z _)) | (go_at_call 16; exact Calls.quiet_of_same (uv16w _ _))))
  refine wpQuiet_nil ?_
  intro _ hw'
  obtain ⟨nq, hw''⟩ := hw'
  subst hw''
  have ht : IntKind.i64.wrap (IntKind.i64.wrap (IntKind.i64.wrap (IntKind.i64.wrap (IntKind.i64.wrap (IntKind.i64.wrap (1 + ((uv z : Nat) : Int)) + ((uv revision : Nat) : Int)) + ((uv (IntKind.u64.wrap (n : Int)).toNat : Nat) : Int)) + ((uv 0 : Nat) : Int)) + ((uv (IntKind.u64.wrap (dn : Int)).toNat : Nat) : Int)) + ((uv (IntKind.u64.wrap groups).toNat : Nat) : Int)) = wrap64 (base1 clock revision n dn groups) := by
    simp only [wrapEq, wrap_add_l, base1, HZ.out]
  rw [ht]
  clear ht hlen
  have hownD : (W.drewN nq).ownsMap Try.prog 9 mapR mb n D := hownW
  have hszD : (W.drewN nq).heap.size = W.heap.size := rfl
  have d2 : (W.drewN nq).cell? ⟨w.heap.size, 2, none⟩ = some (.map (some mb)) := e2
  have hbD : Below W.heap.size W (W.drewN nq) := below_drewN (Below.refl _ _) _
  generalize W.drewN nq = W1 at *
  go_wp2_with (first | (at_range; refine wpList_range_own _ rfl _ 33 rfl 9 56 law9 Try.underlying33 mapR mb n D rfl hownD ?_; intro w0 hrg0 hg0 hs0) | go_in)
  go_frame
  have hb0 : Below W.heap.size W w0 := hbD.grown hg0 (Nat.le_of_eq hszD.symm) (fun k h => by cases h)
  rw [hszD] at hrg0 ⊢
  obtain ⟨es, rfl, hpw, hkl⟩ := hownW.entries law9
  have hst := part_start hkl
  clear hownD hbD d2 hg0 hszD e0 e1 e7 h17 HZ hz hrevision hs0
  go_loopw [3] (fun t wr => ∃ left cnt, wr.ranges Try.prog 9 mapR mb W.heap.size n (.map es) left cnt ∧ t = .int .i64 (wrap64 (base1 clock revision n dn groups + part left (.map es))) ∧ Below W.heap.size W wr) (fun _ wr => wr.rangeLeft mb W.heap.size)
  case atStart => exact ⟨_, _, hrg0, by rw [hst]; simp, hb0⟩
  case round =>
    clear hrg0 hst hb0
    obtain ⟨left, cnt, hrg, rfl, hbel⟩ := hrel
    go_wp2_with (first | (at_next; refine wpList_next_ranges _ rfl _ rfl 9 law9 mapR Value.string Elm.val invK9 invV mb W.heap.size n (.map es) left cnt rfl hrg ?_ ?_) | go_in)
    · intro hc0 hl0
      have hpe : part left (.map es) = ((esum E n : Nat) : Int) := by rw [part_end hl0]; exact HOLD.out.weight
      rw [hpe]
      have hr := lt_of_cell e3
      rw [← hbel.cell (p := ⟨w.heap.size, 3, none⟩) hr] at e3
      rw [← hbel.cell (p := ⟨w.heap.size, 4, none⟩) hr] at e4
      rw [← hbel.cell (p := ⟨w.heap.size, 5, none⟩) hr] at e5
      rw [← hbel.cell (p := ⟨w.heap.size, 6, none⟩) hr] at e6
      have HSr := hide (HSW.out.below hbel (Nat.le_refl _))
      have HB := hide hbel
      clear hpe hrg hc0 hl0 HOLD hkl hpw e2 HSW hbel
      go_wp2_with fail
      generalize hT : base1 clock revision n dn groups + ((esum E n : Nat) : Int) = T
      go_loop [3, 65] (fun t kk => ∃ k : Nat, k ≤ dn ∧ kk = .int .i64 k ∧ t = .int .i64 (wrap64 (T + ((dsum S k : Nat) : Int)))) (fun _ kk => dn - (intOf kk).toNat)
      case atStart => exact ⟨0, Nat.zero_le _, rfl, by simp [dsum]⟩
      case round =>
        obtain ⟨k, hk, rfl, rfl⟩ := hrel
        by_cases hlt : k < dn
        · obtain ⟨b, off, e, hb, c0⟩ := HSr.out k hlt
          subst e
          go_wp2_with fail
          refine (fs18 _ wr).mono ?_
          rintro _ w' ⟨rfl, rfl⟩
          go_wp2_with fail
          go_round
          case rel =>
            refine ⟨k + 1, by omega, by go_num, ?_⟩
            simp only [wrap_add_l, wrap_add_r, dsum]
            congr 2
            omega
          case measure => simp [intOf]; omega
        · obtain rfl : k = dn := by omega
          go_wp2_with fail
          clear e3 HSr
          refine wp_region_quiet_lit (by kernel_rfl) (by kernel_rfl) ?_
          iterate 19 (quiet_step (first | (go_at_call_of 16 (Value.int IntKind.u64 (↑last)); exact Calls.quiet_of_same (uv16q _ hlast _)) | (go_at_call_of 16 (Value.int IntKind.u64 (↑offices)); exact Calls.quiet_of_same (uv16q _ hoffices _)) | (go_at_call 16; exact Calls.quiet_of_same (uv16w _ _))))
          refine wpQuiet_nil ?_
          intro _ hw'
          obtain ⟨nq6, hw''⟩ := hw'
          subst hw''
          have ht : IntKind.i64.wrap (wrap64 (T + ((dsum S k : Nat) : Int)) + IntKind.i64.wrap (IntKind.i64.wrap (((uv last : Nat) : Int) + ((uv offices : Nat) : Int)) + ((uv (IntKind.u64.wrap (ln : Int)).toNat : Nat) : Int))) = wrap64 (base2 T S k last offices ln) := by
            simp only [wrapEq, wrap_add_l, wrap_add_r, base2]
          rw [ht]
          clear ht
          have d6 : (wr.drewN nq6).cell? ⟨w.heap.size, 6, none⟩ = some (.slice (some ⟨g, 0, none⟩) ln ln) := e6
          have HB6 : Hid (Below W.heap.size W (wr.drewN nq6)) := hide (below_drewN HB.out _)
          clear e4 e5 e6 HB
          generalize wr.drewN nq6 = W6 at d6 HB6 ⊢
          generalize hT2 : base2 T S k last offices ln = T2
          go_wp2_with fail
          go_loopw [3, 97] (fun t kk wr => ∃ j : Nat, j ≤ ln ∧ kk = .int .i64 j ∧ t = .int .i64 (wrap64 (T2 + ((lsum L j : Nat) : Int))) ∧ Below W.heap.size W wr) (fun _ kk _ => ln - (intOf kk).toNat)
          case atStart => exact ⟨0, Nat.zero_le _, rfl, by simp [lsum], HB6.out⟩
          case round =>
            clear d6 HB6
            obtain ⟨j, hj, rfl, rfl, hbel⟩ := hrel
            by_cases hjt : j < ln
            · obtain ⟨⟨b, off, e, hb, c0, c1, c2, c3⟩, hks, _, hid, hrn⟩ := (HLW.out.below hbel (Nat.le_refl _)) j hjt
              cases e
              have hkn := HKN.out j hjt
              have HKS := hide hks
              simp only [Nat.zero_add] at c0 c1 c2 c3
              have HN : Hid (lsum L (j + 1) = lsum L j + les (L j)) := hide rfl
              generalize L j = x at c0 c1 c2 c3 HKS hid hrn hkn HN
              obtain ⟨i0, r0, t0, ka, kn, kc, ks⟩ := x
              dsimp only at c0 c1 c2 c3 HKS hid hrn hkn HN
              clear hks
              go_wp2_with fail
              have d0 : (wr.alloc (.cells #[.int .u64 (i0 : Int), .int .u64 (r0 : Int), .int .i64 t0, .slice ka kn kc] 59)).cell? ⟨wr.heap.size, 0, none⟩ = some (.int .u64 (i0 : Int)) := by rw [World.cell?_alloc_new]; rfl
              have d1 : (wr.alloc (.cells #[.int .u64 (i0 : Int), .int .u64 (r0 : Int), .int .i64 t0, .slice ka kn kc] 59)).cell? ⟨wr.heap.size, 1, none⟩ = some (.int .u64 (r0 : Int)) := by rw [World.cell?_alloc_new]; rfl
              have d2 : (wr.alloc (.cells #[.int .u64 (i0 : Int), .int .u64 (r0 : Int), .int .i64 t0, .slice ka kn kc] 59)).cell? ⟨wr.heap.size, 2, none⟩ = some (.int .i64 t0) := by rw [World.cell?_alloc_new]; rfl
              have d3 : (wr.alloc (.cells #[.int .u64 (i0 : Int), .int .u64 (r0 : Int), .int .i64 t0, .slice ka kn kc] 59)).cell? ⟨wr.heap.size, 3, none⟩ = some (.slice ka kn kc) := by rw [World.cell?_alloc_new]; rfl
              have hbw : Below wr.heap.size wr (wr.alloc (.cells #[.int .u64 (i0 : Int), .int .u64 (r0 : Int), .int .i64 t0, .slice ka kn kc] 59)) := (Below.refl _ _).alloc (Nat.le_refl _) _
              have HB8 : Hid (Below W.heap.size W (wr.alloc (.cells #[.int .u64 (i0 : Int), .int .u64 (r0 : Int), .int .i64 t0, .slice ka kn kc] 59))) := hide (hbel.alloc hbel.size _)
              have HKS8 := hide (HKS.out.below hbw (Nat.le_refl _))
              generalize wr.alloc (.cells #[.int .u64 (i0 : Int), .int .u64 (r0 : Int), .int .i64 t0, .slice ka kn kc] 59) = W8 at d0 d1 d2 d3 HB8 HKS8 ⊢
              clear c0 c1 c2 c3 HKS hbw hbel
              refine wp_region_quiet_lit (by kernel_rfl) (by kernel_rfl) ?_
              iterate 21 (quiet_step (first | (go_at_call 19; exact Calls.quiet_of_same (ttl19q _ _)) | (go_at_call_of 16 (Value.int IntKind.u64 (↑i0)); exact Calls.quiet_of_same (uv16q _ hid _)) | (go_at_call_of 16 (Value.int IntKind.u64 (↑r0)); exact Calls.quiet_of_same (uv16q _ hrn _)) | (go_at_call_of 16 (Value.int IntKind.u64 (↑(tm t0))); exact Calls.quiet_of_same (uv16q _ (tm_lt _) _)) | (go_at_call 16; exact Calls.quiet_of_same (uv16w _ _))))
              refine wpQuiet_nil ?_
              intro _ hw'
              obtain ⟨nq8, hw''⟩ := hw'
              subst hw''
              have ht : IntKind.i64.wrap (wrap64 (T2 + ((lsum L j : Nat) : Int)) + IntKind.i64.wrap (IntKind.i64.wrap (IntKind.i64.wrap (((uv i0 : Nat) : Int) + ((uv (tm t0) : Nat) : Int)) + ((uv r0 : Nat) : Int)) + ((uv (IntKind.u64.wrap (kn : Int)).toNat : Nat) : Int)))
                  = wrap64 (T2 + ((lsum L j : Nat) : Int) + (((uv i0 : Nat) : Int) + ((uv (tm t0) : Nat) : Int) + ((uv r0 : Nat) : Int) + ((uv (u64n kn) : Nat) : Int))) := by
                simp only [wrapEq, wrap_add_l, wrap_add_r, u64n_eq, Int.toNat_natCast]
              rw [ht]
              clear ht
              have d9 : (W8.drewN nq8).cell? ⟨wr.heap.size, 3, none⟩ = some (.slice ka kn kc) := d3
              have HB9 : Hid (Below W.heap.size W (W8.drewN nq8)) := hide (below_drewN HB8.out _)
              have HKS9 : Hid (StrsAt (W8.drewN nq8) ka kn ks) := hide (HKS8.out.below (below_drewN (Below.refl W8.heap.size W8) nq8) (Nat.le_refl _))
              clear d0 d1 d2 d3 HB8 HKS8
              generalize W8.drewN nq8 = W9 at d9 HB9 HKS9 ⊢
              generalize hT3 : T2 + ((lsum L j : Nat) : Int) + (((uv i0 : Nat) : Int) + ((uv (tm t0) : Nat) : Int) + ((uv r0 : Nat) : Int) + ((uv (u64n kn) : Nat) : Int)) = T3
              have HT3 := hide hT3
              clear hT3
              go_wp2_with fail
              go_loop [3, 124] (fun t kk => ∃ i : Nat, i ≤ kn ∧ kk = .int .i64 i ∧ t = .int .i64 (wrap64 (T3 + ((dsum ks i : Nat) : Int)))) (fun _ kk => kn - (intOf kk).toNat)
              case atStart => exact ⟨0, Nat.zero_le _, rfl, by simp [dsum]⟩
              case round =>
                obtain ⟨i, hi, rfl, rfl⟩ := hrel
                by_cases hit : i < kn
                · obtain ⟨b', off', e, hb', s0⟩ := HKS9.out i hit
                  subst e
                  go_wp2_with fail
                  refine (fs18 _ W9).mono ?_
                  rintro _ w' ⟨rfl, rfl⟩
                  go_wp2_with fail
                  go_round
                  case rel =>
                    refine ⟨i + 1, by omega, by go_num, ?_⟩
                    simp only [wrap_add_l, wrap_add_r, dsum]
                    congr 2
                    omega
                  case measure => simp [intOf]; omega
                · obtain rfl : i = kn := by omega
                  clear HKS9 d9
                  go_wp2_with fail
                  go_roundw
                  case rel =>
                    refine ⟨j + 1, by omega, by go_num, ?_, HB9.out⟩
                    rw [HN.out, ← HT3.out]
                    congr 2
                    simp only [les]
                    omega
                  case measure => simp [intOf]; omega
            · obtain rfl : j = ln := by omega
              go_wp2
              go_ret
              refine ⟨?_, hbW.trans (hbel.mono hbW.size)⟩
              subst hT2
              subst hT
              rfl
    · intro x c kl y yp w1 cnt1 hkey hlk hv hat hrg1 hlt1 hg1 hs1 hen
      obtain ⟨hkq, hxs⟩ := key_of hkey
      obtain ⟨hcr, hy⟩ := val_of hv
      rw [Elm.val] at hen ⊢
      have hps := part_step hpw hkl hlk hat
      dsimp only at hy
      subst hy
      subst hkq
      have HPS := hide hps
      have HRG := hide hrg1
      have hsz0 := hbel.size
      clear hps hv hkey hat hlk hrg1
      obtain ⟨ca, cl, cc, cr⟩ := c
      dsimp only at hcr hen HPS ⊢
      go_wp2
      have c0 : (w1.alloc (.cells #[.slice ca cl cc, .int .u64 (cr : Int)] 56)).cell? ⟨wr.heap.size, 0, none⟩ = some (.slice ca cl cc) := by rw [← hs1, World.cell?_alloc_new]; rfl
      have c1 : (w1.alloc (.cells #[.slice ca cl cc, .int .u64 (cr : Int)] 56)).cell? ⟨wr.heap.size, 1, none⟩ = some (.int .u64 (cr : Int)) := by rw [← hs1, World.cell?_alloc_new]; rfl
      have HRG2 := hide (HRG.out.alloc (.cells #[.slice ca cl cc, .int .u64 (cr : Int)] 56))
      have HB : Hid (Below W.heap.size W (w1.alloc (.cells #[.slice ca cl cc, .int .u64 (cr : Int)] 56))) := hide ((hbel.grown hg1 hsz0 (fun k h => by cases h; exact Nat.le_refl _)).alloc (by omega) _)
      generalize w1.alloc (.cells #[.slice ca cl cc, .int .u64 (cr : Int)] 56) = W5 at c0 c1 HRG2 HB ⊢
      have HLE := hide hrg.left_eq
      clear hen hg1 HRG hbel hrg e2 e3 e4 e5 e6 hs1
      refine wp_region_quiet_lit (by kernel_rfl) (by kernel_rfl) ?_
      iterate 15 (quiet_step (first | (go_at_call 18; exact Calls.quiet_of_same (fs18q _ _)) | (go_at_call 16; exact Calls.quiet_of_same (uv16q _ hcr _))))
      refine wpQuiet_nil ?_
      intro _ hw'
      obtain ⟨nq5, hw''⟩ := hw'
      subst hw''
      have HRG3 : Hid ((W5.drewN nq5).ranges Try.prog 9 mapR mb W.heap.size n (.map es) (fun z => left z && !z.sameKey (.string x.data.toList)) cnt1) := HRG2
      have HB3 : Hid (Below W.heap.size W (W5.drewN nq5)) := hide (below_drewN HB.out _)
      go_wp2
      have hgp : gp (.string x.data.toList, .lit (.int .i64 ((uv cr + fs cl : Nat) : Int))) = ((fs x.size : Nat) : Int) + ((uv cr : Nat) : Int) + ((fs cl : Nat) : Int) := by
        simp [gp, kb, eb]
        omega
      go_roundw
      case rel =>
        refine ⟨_, cnt1, HRG3.out, ?_, HB3.out⟩
        rw [HPS.out, hgp]
        simp only [wrapEq, wrap_add_l, wrap_add_r]
        congr 2
        omega
      case measure =>
        rw [HRG3.out.left_eq, HLE.out]
        exact hlt1
end Go.Proofs.Qxb6630629a
