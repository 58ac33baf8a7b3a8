/-
  Seat b6630629a: the walks of zzHeadBytesOver, zzDistinctKeys, zzHasKey.
-/
import Derived.Test.Qxb6630629aGuards
import Derived.Lib.SlicesS
namespace Go.Proofs.Qxb6630629a
open Go.ChangeShapes Go.WideShapes Go.ChangeAt Go.RowKit Plain

set_option maxRecDepth 100000 in
set_option maxHeartbeats 3200000 in
theorem over5 (ea : Option Addr) (en ec : Nat) (E : Nat → En) (da : Option Addr) (dn dc : Nat) (S : Nat → ByteArray) (la : Option Addr) (ln lc : Nat) (L : Nat → Le) (key : ByteArray) (va : Option Addr) (vn vc : Nat) (w : World)
    (hen : en ≤ 1048576) (hdn : dn ≤ 1048576) (hln : ln ≤ 1048576) (hkn : ∀ j, j < ln → (L j).kn ≤ 1048576) (hE : EntsAt w ea en E) (hS : StrsAt w da dn S) (hL : LeasAt w la ln L) :
    Calls Try.prog 5 #[.slice ea en ec, .slice da dn dc, .slice la ln lc, .string key, .slice va vn vc] w fun e w' => IsB e ∧ w = w' := by
  go_enter Try.func5, Try.ntmps5
  go_wp2_with fail
  refine (add12 _ _ w).mono ?_
  rintro _ w' ⟨⟨x, rfl⟩, rfl⟩
  go_wp2_with fail
  refine (add12 _ _ w).mono ?_
  rintro _ w' ⟨⟨x, rfl⟩, rfl⟩
  go_wp2_with fail
  · go_ret; exact ⟨⟨_, rfl⟩, rfl⟩
  go_loop [11, 12] (fun z kk => ∃ (k : Nat) (t : Int), k ≤ en ∧ kk = .int .i64 k ∧ z = .int .i64 t) (fun _ kk => en - (intOf kk).toNat)
  case atStart => exact ⟨0, _, Nat.zero_le _, rfl, rfl⟩
  case round =>
    obtain ⟨k, t, hk, rfl, rfl⟩ := hrel
    by_cases hlt : k < en
    · obtain ⟨⟨b, off, rfl, hb, c0, c1, c2⟩, hv, hvl, hrv⟩ := hE k hlt
      generalize E k = x at c0 c1 c2 hv hvl hrv
      obtain ⟨k0, v0, l0, cc0, r0⟩ := x
      clear hE hS hL hv hkn
      go_wp2_with fail
      refine (add12 _ _ w).mono ?_
      rintro _ w' ⟨⟨x, rfl⟩, rfl⟩
      go_wp2_with fail
      refine (add12 _ _ w).mono ?_
      rintro _ w' ⟨⟨x, rfl⟩, rfl⟩
      go_wp2_with fail
      refine (add12 _ _ w).mono ?_
      rintro _ w' ⟨⟨x, rfl⟩, rfl⟩
      go_wp2_with fail
      all_goals first
        | (go_ret; exact ⟨⟨_, rfl⟩, rfl⟩)
        | (go_round
           case rel => exact ⟨k + 1, _, by omega, by go_num, rfl⟩
           case measure => simp [intOf]; omega)
    · clear hE
      go_wp2
      go_loop [11, 13] (fun z kk => ∃ (k : Nat) (t : Int), k ≤ dn ∧ kk = .int .i64 k ∧ z = .int .i64 t) (fun _ kk => dn - (intOf kk).toNat)
      case atStart => exact ⟨0, _, Nat.zero_le _, rfl, rfl⟩
      case round =>
        clear hlt hk
        obtain ⟨k, t, hk, rfl, rfl⟩ := hrel
        by_cases hlt : k < dn
        · obtain ⟨b, off, rfl, hb, c0⟩ := hS k hlt
          generalize S k = x at c0
          clear hS hL hkn
          go_wp2_with fail
          refine (add12 _ _ w).mono ?_
          rintro _ w' ⟨⟨x, rfl⟩, rfl⟩
          go_wp2_with fail
          refine (add12 _ _ w).mono ?_
          rintro _ w' ⟨⟨x, rfl⟩, rfl⟩
          go_wp2_with fail
          all_goals first
            | (go_ret; exact ⟨⟨_, rfl⟩, rfl⟩)
            | (go_round
               case rel => exact ⟨k + 1, _, by omega, by go_num, rfl⟩
               case measure => simp [intOf]; omega)
        · clear hS
          go_wp2
          go_loop [11, 14] (fun z kk => ∃ (k : Nat) (t : Int), k ≤ ln ∧ kk = .int .i64 k ∧ z = .int .i64 t) (fun _ kk => ln - (intOf kk).toNat)
          case atStart => exact ⟨0, _, Nat.zero_le _, rfl, rfl⟩
          case round =>
            clear hlt hk
            obtain ⟨k, t, hk, rfl, rfl⟩ := hrel
            by_cases hlt : k < ln
            · obtain ⟨⟨b, off, rfl, hb, c0, c1, c2, c3⟩, hks, _, _, _⟩ := hL k hlt
              have hkk := hkn k hlt
              generalize L k = x at c0 c1 c2 c3 hks hkk
              obtain ⟨i0, r0, t0, ka, kn, kc, ks⟩ := x
              simp only at c3 hks hkk
              clear hL hkn
              go_wp2_with fail
              refine (add12 _ _ w).mono ?_
              rintro _ w' ⟨⟨x, rfl⟩, rfl⟩
              go_wp2_with fail
              · go_ret; exact ⟨⟨_, rfl⟩, rfl⟩
              go_loop [11, 16] (fun z kk => ∃ (j : Nat) (t : Int), j ≤ kn ∧ kk = .int .i64 j ∧ z = .int .i64 t) (fun _ kk => kn - (intOf kk).toNat)
              case atStart => exact ⟨0, _, Nat.zero_le _, rfl, rfl⟩
              case round =>
                obtain ⟨j, t, hj, rfl, rfl⟩ := hrel
                by_cases hjt : j < kn
                · obtain ⟨b', off', rfl, hb', s0⟩ := hks j hjt
                  generalize ks j = x at s0
                  clear hks
                  go_wp2_with fail
                  refine (add12 _ _ w).mono ?_
                  rintro _ w' ⟨⟨x, rfl⟩, rfl⟩
                  go_wp2_with fail
                  refine (add12 _ _ w).mono ?_
                  rintro _ w' ⟨⟨x, rfl⟩, rfl⟩
                  go_wp2_with fail
                  all_goals first
                    | (go_ret; exact ⟨⟨_, rfl⟩, rfl⟩)
                    | (go_round
                       case rel => exact ⟨j + 1, _, by omega, by go_num, rfl⟩
                       case measure => simp [intOf]; omega)
                · clear hks
                  go_wp2
                  go_round
                  case rel => exact ⟨k + 1, _, by omega, by go_num, rfl⟩
                  case measure => simp [intOf]; omega
            · clear hL hkn
              go_wp2
              go_ret
              exact ⟨⟨_, rfl⟩, rfl⟩

/-- It returned a bool, 'false' only where the key is none of theirs. -/
def NoKeyB (n : Nat) (E : Nat → En) (key : ByteArray) (e : Ending) : Prop := ∃ x, e = .returned (.bool x) ∧ (x = false → ∀ j, j < n → (E j).k ≠ key)
/-- It returned a bool, 'true' only where the keys are apart. -/
def ApartB (n : Nat) (E : Nat → En) (e : Ending) : Prop := ∃ x, e = .returned (.bool x) ∧ (x = true → ∀ i, i < n → ∀ j, j < i → (E i).k ≠ (E j).k)

set_option maxRecDepth 100000 in
set_option maxHeartbeats 3200000 in
theorem has7 (ea : Option Addr) (en ec : Nat) (E : Nat → En) (key : ByteArray) (w : World) (hen : en ≤ 1048576) (hE : EntsAt w ea en E) :
    Calls Try.prog 7 #[.slice ea en ec, .string key] w fun e w' => NoKeyB en E key e ∧ w = w' := by
  go_enter Try.func7, Try.ntmps7
  go_wp2_with fail
  go_loop [5] (fun kk => ∃ (k : Nat), k ≤ en ∧ kk = .int .i64 k ∧ ∀ j, j < k → (E j).k ≠ key) (fun kk => en - (intOf kk).toNat)
  case atStart => exact ⟨0, Nat.zero_le _, rfl, fun j h => absurd h (Nat.not_lt_zero _)⟩
  case round =>
    obtain ⟨k, hk, rfl, had⟩ := hrel
    by_cases hlt : k < en
    · obtain ⟨⟨b, off, rfl, hb, c0, c1, c2⟩, hv, hvl, hrv⟩ := hE k hlt
      have HS := hide (fun h => all_step (P := fun j => (E j).k ≠ key) had (k := k) h)
      generalize E k = x at c0 c1 c2 hv hvl hrv HS
      obtain ⟨k0, v0, l0, cc0, r0⟩ := x
      dsimp only at c0 c1 c2 HS
      clear hE hv had c1 c2 hvl hrv
      by_cases hq : k0 = key
      · subst hq
        clear HS
        go_wp2
        go_ret
        exact ⟨⟨true, rfl, fun h => absurd h.symm Bool.false_ne_true⟩, rfl⟩
      · have hqb : (k0.toList == key.toList) = false := (Lib.bytes_beq_false_iff _ _).2 hq
        have hn := HS.out hq
        have HN := hide hn
        clear HS hn
        go_wp2
        go_round
        case rel => exact ⟨k + 1, by omega, by go_num, HN.out⟩
        case measure => simp [intOf]; omega
    · obtain rfl : k = en := by omega
      have HN := hide had
      clear hE had
      go_wp2
      go_ret
      exact ⟨⟨_, rfl, fun _ => HN.out⟩, rfl⟩

set_option maxRecDepth 100000 in
set_option maxHeartbeats 3200000 in
theorem apart6 (ea : Option Addr) (en ec : Nat) (E : Nat → En) (w : World) (hen : en ≤ 1048576) (hE : EntsAt w ea en E) :
    Calls Try.prog 6 #[.slice ea en ec] w fun e w' => ApartB en E e ∧ Below w.heap.size w w' := by
  go_enter Try.func6, Try.ntmps6
  go_wp2_with fail
  go_loopw [3] (fun kk wr => ∃ (k m : Nat), k ≤ en ∧ kk = .int .i64 k ∧ wr = w.drewN m ∧ ∀ i, i < k → ∀ j, j < i → (E i).k ≠ (E j).k) (fun kk _ => en - (intOf kk).toNat)
  case atStart => exact ⟨0, 0, Nat.zero_le _, rfl, rfl, fun j h => absurd h (Nat.not_lt_zero _)⟩
  case round =>
    obtain ⟨k, m, hk, rfl, rfl, had⟩ := hrel
    by_cases hlt : k < en
    · have HS := hide (fun h => all_step (P := fun i => ∀ j, j < i → (E i).k ≠ (E j).k) had (k := k) h)
      clear had
      go_wp2
      go_loopw [4] (fun jj wr => ∃ (j m : Nat), j ≤ k ∧ jj = .int .i64 j ∧ wr = w.drewN m ∧ ∀ i, i < j → (E k).k ≠ (E i).k) (fun jj _ => k - (intOf jj).toNat)
      case atStart => exact ⟨0, m, Nat.zero_le _, rfl, rfl, fun j h => absurd h (Nat.not_lt_zero _)⟩
      case round =>
        obtain ⟨j, m, hj, rfl, rfl, had⟩ := hrel
        by_cases hjt : j < k
        · obtain ⟨⟨b, off, rfl, hb, c0, c1, c2⟩, hv, hvl, hrv⟩ := hE k hlt
          obtain ⟨⟨b', off', e', hb', d0, d1, d2⟩, hv', hvl', hrv'⟩ := hE j (by omega)
          cases e'
          have HJ := hide (fun h => all_step (P := fun i => (E k).k ≠ (E i).k) had (k := j) h)
          clear hv hvl hrv c1 c2 hv' hvl' hrv' d1 d2 had HS hE
          generalize (E k).k = x at c0 HJ
          generalize (E j).k = y at d0 HJ
          by_cases hq : x = y
          · subst hq
            clear HJ
            go_wp2
            go_quiet (fail)
            go_wp2
            go_ret
            exact ⟨⟨false, rfl, fun h => absurd h Bool.false_ne_true⟩, below_drewN (below_drewN (Below.refl _ _) _) _⟩
          · have hqb : (x.toList == y.toList) = false := (Lib.bytes_beq_false_iff _ _).2 hq
            have HN := hide (HJ.out hq)
            clear HJ
            go_wp2
            go_quiet (fail)
            go_wp2
            go_roundw
            case rel => exact ⟨j + 1, _, by omega, by go_num, rfl, HN.out⟩
            case measure => simp [intOf]; omega
        · obtain rfl : j = k := by omega
          have HN := hide (HS.out had)
          clear hE had HS
          go_wp2
          go_roundw
          case rel => exact ⟨j + 1, _, by omega, by go_num, rfl, HN.out⟩
          case measure => simp [intOf]; omega
    · obtain rfl : k = en := by omega
      have HN := hide had
      clear hE had
      go_wp2
      go_ret
      exact ⟨⟨_, rfl, fun _ => HN.out⟩, below_drewN (Below.refl _ _) _⟩
end Go.Proofs.Qxb6630629a
