/-
  Seat b6630629a: how the arguments lie, and the walks of the guards.
-/
import Derived.Test.Qxb6630629aSmall
import Derived.RegionTactic
import Derived.Deep.QuietTactic
import Derived.BigQuiet
namespace Go.Proofs.Qxb6630629a
open Go.ChangeShapes Go.WideShapes Go.ChangeAt Go.RowKit Plain

/-- One entry: its key, its value's slice, its revision. -/
structure En where
  k : ByteArray
  va : Option Addr
  vl : Nat
  vc : Nat
  rv : Nat
/-- One lease; ks: its keys' texts. -/
structure Le where
  id : Nat
  rn : Nat
  ttl : Int
  ka : Option Addr
  kn : Nat
  kc : Nat
  ks : Nat → ByteArray

/-- n texts lie at a. -/
def StrsAt (w : World) (a : Option Addr) (n : Nat) (S : Nat → ByteArray) : Prop :=
  ∀ k, k < n → ∃ b off, a = some ⟨b, off, none⟩ ∧ b < w.heap.size ∧ w.cell? ⟨b, off + k, none⟩ = some (.string (S k))
/-- n bytes lie at a. -/
def BytesAt (w : World) (a : Option Addr) (n : Nat) : Prop :=
  ∀ k, k < n → ∃ b off, a = some ⟨b, off, none⟩ ∧ b < w.heap.size ∧ ∃ x, w.cell? ⟨b, off + k, none⟩ = some (.int .u8 x)
/-- n entries lie at a. -/
def EntsAt (w : World) (a : Option Addr) (n : Nat) (L : Nat → En) : Prop :=
  ∀ k, k < n → (∃ b off, a = some ⟨b, off, none⟩ ∧ b < w.heap.size ∧ w.cell? ⟨b, off + k * 3, none⟩ = some (.string (L k).k) ∧
    w.cell? ⟨b, off + k * 3 + 1, none⟩ = some (.slice (L k).va (L k).vl (L k).vc) ∧ w.cell? ⟨b, off + k * 3 + 2, none⟩ = some (.int .u64 ((L k).rv : Int))) ∧
    BytesAt w (L k).va (L k).vl ∧ (L k).vl ≤ maxLen ∧ (L k).rv < 18446744073709551616
/-- n leases lie at a. -/
def LeasAt (w : World) (a : Option Addr) (n : Nat) (L : Nat → Le) : Prop :=
  ∀ k, k < n → (∃ b off, a = some ⟨b, off, none⟩ ∧ b < w.heap.size ∧ w.cell? ⟨b, off + k * 4, none⟩ = some (.int .u64 ((L k).id : Int)) ∧ w.cell? ⟨b, off + k * 4 + 1, none⟩ = some (.int .u64 ((L k).rn : Int)) ∧
    w.cell? ⟨b, off + k * 4 + 2, none⟩ = some (.int .i64 (L k).ttl) ∧ w.cell? ⟨b, off + k * 4 + 3, none⟩ = some (.slice (L k).ka (L k).kn (L k).kc)) ∧
    StrsAt w (L k).ka (L k).kn (L k).ks ∧ (L k).kn ≤ maxLen ∧ (L k).id < 18446744073709551616 ∧ (L k).rn < 18446744073709551616

theorem StrsAt.below {w w' : World} {B : Nat} {a : Option Addr} {n : Nat} {S : Nat → ByteArray} (h : StrsAt w a n S) (hb : Below B w w') (hB : w.heap.size ≤ B) : StrsAt w' a n S := by
  intro k hk
  obtain ⟨b, off, e, hl, hc⟩ := h k hk
  exact ⟨b, off, e, by have := hb.size; omega, by rw [hb.cell (p := ⟨b, _, none⟩) (by show b < B; omega)]; exact hc⟩
theorem BytesAt.below {w w' : World} {B : Nat} {a : Option Addr} {n : Nat} (h : BytesAt w a n) (hb : Below B w w') (hB : w.heap.size ≤ B) : BytesAt w' a n := by
  intro k hk
  obtain ⟨b, off, e, hl, x, hc⟩ := h k hk
  exact ⟨b, off, e, by have := hb.size; omega, x, by rw [hb.cell (p := ⟨b, _, none⟩) (by show b < B; omega)]; exact hc⟩
theorem EntsAt.below {w w' : World} {B : Nat} {a : Option Addr} {n : Nat} {L : Nat → En} (h : EntsAt w a n L) (hb : Below B w w') (hB : w.heap.size ≤ B) : EntsAt w' a n L := by
  intro k hk
  obtain ⟨⟨b, off, e, hl, c0, c1, c2⟩, hv, r⟩ := h k hk
  have hc := fun o => hb.cell (p := ⟨b, o, none⟩) (by show b < B; omega)
  exact ⟨⟨b, off, e, by have := hb.size; omega, by rw [hc]; exact c0, by rw [hc]; exact c1, by rw [hc]; exact c2⟩, hv.below hb hB, r⟩
theorem LeasAt.below {w w' : World} {B : Nat} {a : Option Addr} {n : Nat} {L : Nat → Le} (h : LeasAt w a n L) (hb : Below B w w') (hB : w.heap.size ≤ B) : LeasAt w' a n L := by
  intro k hk
  obtain ⟨⟨b, off, e, hl, c0, c1, c2, c3⟩, hv, r⟩ := h k hk
  have hc := fun o => hb.cell (p := ⟨b, o, none⟩) (by show b < B; omega)
  exact ⟨⟨b, off, e, by have := hb.size; omega, by rw [hc]; exact c0, by rw [hc]; exact c1, by rw [hc]; exact c2, by rw [hc]; exact c3⟩, hv.below hb hB, r⟩

/-- It returned a bool. -/
def IsB (e : Ending) : Prop := ∃ x, e = .returned (.bool x)

/-- Every slice is small. -/
structure Small (en dn ln vn : Nat) (E : Nat → En) (L : Nat → Le) : Prop where
  hen : en ≤ 1048576
  hdn : dn ≤ 1048576
  hln : ln ≤ 1048576
  hvn : vn ≤ 1048576
  vl : ∀ j, j < en → (E j).vl ≤ 1048576
  kn : ∀ j, j < ln → (L j).kn ≤ 1048576
/-- It returned a bool, 'true' only where all is small. -/
def SmallB (en dn ln vn : Nat) (E : Nat → En) (L : Nat → Le) (e : Ending) : Prop := ∃ x, e = .returned (.bool x) ∧ (x = true → Small en dn ln vn E L)

theorem all_step {P : Nat → Prop} {k : Nat} (h : ∀ j, j < k → P j) (hk : P k) : ∀ j, j < k + 1 → P j := by
  intro j hj
  rcases Nat.lt_or_eq_of_le (Nat.le_of_lt_succ hj) with h' | h'
  · exact h j h'
  · rw [h']; exact hk

set_option maxRecDepth 100000 in
set_option maxHeartbeats 3200000 in
theorem bytes4 (clock : Int) (revision : Nat) (ea : Option Addr) (en ec : Nat) (E : Nat → En) (da : Option Addr) (dn dc : Nat) (S : Nat → ByteArray) (last offices : Nat) (la : Option Addr) (ln lc : Nat) (L : Nat → Le) (groups : Int) (key : ByteArray) (va : Option Addr) (vn vc : Nat) (rev : Nat) (w : World)
    (hen : en ≤ maxLen) (hdn : dn ≤ maxLen) (hln : ln ≤ maxLen) (hE : EntsAt w ea en E) (hS : StrsAt w da dn S) (hL : LeasAt w la ln L) :
    Calls Try.prog 4 #[.int .i64 clock, .int .u64 (revision : Int), .slice ea en ec, .slice da dn dc, .int .u64 (last : Int), .int .u64 (offices : Int), .slice la ln lc, .int .i64 groups, .string key, .slice va vn vc, .int .u64 (rev : Int)] w fun e w' => SmallB en dn ln vn E L e ∧ w = w' := by
  unfold maxLen at hen hdn hln
  go_enter Try.func4, Try.ntmps4
  go_wp2_with fail
  · go_ret; exact ⟨⟨false, rfl, fun h => absurd h Bool.false_ne_true⟩, rfl⟩
  go_loop [23, 24] (fun z kk => ∃ (k : Nat) (t : Int), k ≤ en ∧ kk = .int .i64 k ∧ z = .int .i64 t ∧ ∀ j, j < k → (E j).vl ≤ 1048576) (fun _ kk => en - (intOf kk).toNat)
  case atStart => exact ⟨0, _, Nat.zero_le _, rfl, rfl, fun j h => absurd h (Nat.not_lt_zero _)⟩
  case round =>
    obtain ⟨k, t, hk, rfl, rfl, had⟩ := hrel
    by_cases hlt : k < en
    · obtain ⟨⟨b, off, rfl, hb, c0, c1, c2⟩, hv, hvl, hrv⟩ := hE k hlt
      have HS := hide (fun h => all_step (P := fun j => (E j).vl ≤ 1048576) had (k := k) h)
      generalize E k = x at c0 c1 c2 hv hvl hrv HS
      obtain ⟨k0, v0, l0, cc0, r0⟩ := x
      try dsimp only at HS
      clear hE hS hL hv had
      go_wp2
      all_goals first
        | (go_ret; exact ⟨⟨false, rfl, fun h => absurd h Bool.false_ne_true⟩, rfl⟩)
        | (go_round
           case rel => exact ⟨k + 1, _, by omega, by go_num, rfl, HS.out (by omega)⟩
           case measure => simp [intOf]; omega)
    · clear hE
      obtain rfl : k = en := by omega
      have HE := hide had
      clear had
      go_wp2
      · go_ret; exact ⟨⟨false, rfl, fun h => absurd h Bool.false_ne_true⟩, rfl⟩
      · go_ret; exact ⟨⟨false, rfl, fun h => absurd h Bool.false_ne_true⟩, rfl⟩
      go_loop [23, 25] (fun z kk => ∃ (k : Nat) (t : Int), k ≤ dn ∧ kk = .int .i64 k ∧ z = .int .i64 t) (fun _ kk => dn - (intOf kk).toNat)
      case atStart => exact ⟨0, _, Nat.zero_le _, rfl, rfl⟩
      case round =>
        clear hlt hk
        obtain ⟨k, t, hk, rfl, rfl⟩ := hrel
        by_cases hlt : k < dn
        · obtain ⟨b, off, rfl, hb, c0⟩ := hS k hlt
          generalize S k = x at c0
          clear hS hL
          go_wp2
          all_goals first
            | (go_ret; exact ⟨⟨false, rfl, fun h => absurd h Bool.false_ne_true⟩, rfl⟩)
            | (go_round
               case rel => exact ⟨k + 1, _, by omega, by go_num, rfl⟩
               case measure => simp [intOf]; omega)
        · clear hS
          go_wp2
          · go_ret; exact ⟨⟨false, rfl, fun h => absurd h Bool.false_ne_true⟩, rfl⟩
          · go_ret; exact ⟨⟨false, rfl, fun h => absurd h Bool.false_ne_true⟩, rfl⟩
          go_loop [23, 26] (fun z kk => ∃ (k : Nat) (t : Int), k ≤ ln ∧ kk = .int .i64 k ∧ z = .int .i64 t ∧ ∀ j, j < k → (L j).kn ≤ 1048576) (fun _ kk => ln - (intOf kk).toNat)
          case atStart => exact ⟨0, _, Nat.zero_le _, rfl, rfl, fun j h => absurd h (Nat.not_lt_zero _)⟩
          case round =>
            clear hlt hk
            obtain ⟨k, t, hk, rfl, rfl, had⟩ := hrel
            by_cases hlt : k < ln
            · obtain ⟨⟨b, off, rfl, hb, c0, c1, c2, c3⟩, hks, hkn, _, _⟩ := hL k hlt
              have HS := hide (fun h => all_step (P := fun j => (L j).kn ≤ 1048576) had (k := k) h)
              clear had
              generalize L k = x at c0 c1 c2 c3 hks hkn HS
              obtain ⟨i0, r0, t0, ka, kn, kc, ks⟩ := x
              simp only at c3 hks hkn
              try dsimp only at HS
              unfold maxLen at hkn
              clear hL
              go_wp2
              · go_ret; exact ⟨⟨false, rfl, fun h => absurd h Bool.false_ne_true⟩, rfl⟩
              · go_ret; exact ⟨⟨false, rfl, fun h => absurd h Bool.false_ne_true⟩, rfl⟩
              go_loop [23, 27] (fun z kk => ∃ (j : Nat) (t : Int), j ≤ kn ∧ kk = .int .i64 j ∧ z = .int .i64 t) (fun _ kk => kn - (intOf kk).toNat)
              case atStart => exact ⟨0, _, Nat.zero_le _, rfl, rfl⟩
              case round =>
                obtain ⟨j, t, hj, rfl, rfl⟩ := hrel
                by_cases hjt : j < kn
                · obtain ⟨b', off', rfl, hb', s0⟩ := hks j hjt
                  generalize ks j = x at s0
                  clear hks
                  go_wp2
                  all_goals first
                    | (go_ret; exact ⟨⟨false, rfl, fun h => absurd h Bool.false_ne_true⟩, rfl⟩)
                    | (go_round
                       case rel => exact ⟨j + 1, _, by omega, by go_num, rfl⟩
                       case measure => simp [intOf]; omega)
                · clear hks
                  go_wp2
                  go_round
                  case rel => exact ⟨k + 1, _, by omega, by go_num, rfl, HS.out (by omega)⟩
                  case measure => simp [intOf]; omega
            · obtain rfl : k = ln := by omega
              have HL := hide had
              clear hL had
              go_wp2
              all_goals first
                | (go_ret; exact ⟨⟨false, rfl, fun h => absurd h Bool.false_ne_true⟩, rfl⟩)
                | (go_ret; exact ⟨⟨_, rfl, fun _ => ⟨by omega, by omega, by omega, by omega, HE.out, HL.out⟩⟩, rfl⟩)
end Go.Proofs.Qxb6630629a
