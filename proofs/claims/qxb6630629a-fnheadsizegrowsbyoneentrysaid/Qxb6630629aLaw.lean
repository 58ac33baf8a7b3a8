/-
  Seat b6630629a: the walk of FnHeadSizeGrowsByOneEntry.
-/
import Derived.Test.Qxb6630629aSize
namespace Go.Proofs.Qxb6630629a
open Go.ChangeShapes Go.WideShapes Go.ChangeAt Go.RowKit Plain Go.Maps

abbrev zeroEn : Value := .agg #[.string ⟨#[]⟩, .slice none 0 0, .int .u64 0]
theorem info32 : (Try.prog.info? 32).map (fun i => (i.zero, i.size, i.bytes)) = some (some zeroEn, 3, 48) := by kernel_rfl

/-- Block g is a row of n entries of which the first k are E's. -/
def Row3 (w : World) (g n k : Nat) (E : Nat → En) : Prop :=
  ∃ cur, w.heap[g]? = some (.cells cur 32 (0, 0)) ∧ cur.size = n * 3 ∧ ∀ j, j < k → cur[j * 3]? = some (.string (E j).k) ∧ cur[j * 3 + 1]? = some (.slice (E j).va (E j).vl (E j).vc) ∧ cur[j * 3 + 2]? = some (.int .u64 ((E j).rv : Int))
theorem row3_of_owned {w1 : World} {B g n : Nat} {xs : List Value} (E : Nat → En) (h : w1.ownsRow B 32 3 (.slice (some ⟨g, 0, none⟩) n n) n xs) : Row3 w1 g n 0 E := by
  obtain ⟨_, h | ⟨g', cap, cur, hv, _, hh, _, _, hs, _⟩⟩ := h
  · cases h.1
  · cases hv
    exact ⟨cur, hh, hs, fun j hj => absurd hj (Nat.not_lt_zero _)⟩
theorem Row3.lt {w : World} {g n k : Nat} {E : Nat → En} (h : Row3 w g n k E) : g < w.heap.size := by
  obtain ⟨cur, hh, _⟩ := h
  exact (Array.getElem?_eq_some_iff.1 hh).1
theorem Row3.cells {w : World} {g n k j : Nat} {E : Nat → En} (h : Row3 w g n k E) (hj : j < n) :
    ∃ u0 u1 u2, w.cell? ⟨g, j * 3, none⟩ = some u0 ∧ w.cell? ⟨g, j * 3 + 1, none⟩ = some u1 ∧ w.cell? ⟨g, j * 3 + 2, none⟩ = some u2 ∧
      w.frozen? ⟨g, j * 3, none⟩ = false ∧ w.frozen? ⟨g, j * 3 + 1, none⟩ = false ∧ w.frozen? ⟨g, j * 3 + 2, none⟩ = false := by
  obtain ⟨cur, hh, hs, _⟩ := h
  refine ⟨cur[j * 3], cur[j * 3 + 1], cur[j * 3 + 2], ?_, ?_, ?_, free_of_block hh _, free_of_block hh _, free_of_block hh _⟩
  all_goals (rw [cell_of_block hh]; exact Array.getElem?_eq_getElem _)
theorem Row3.step {w : World} {g n k : Nat} {E : Nat → En} (h : Row3 w g n k E) (hk : k < n) {x : En} (hx : E k = x) :
    Row3 (((w.setCell ⟨g, k * 3, none⟩ (.string x.k)).setCell ⟨g, k * 3 + 1, none⟩ (.slice x.va x.vl x.vc)).setCell ⟨g, k * 3 + 2, none⟩ (.int .u64 (x.rv : Int))) g n (k + 1) E := by
  obtain ⟨cur, hh, hs, hc⟩ := h
  have h4 := heap_setCell_same _ g (k * 3 + 2) _ _ (.int .u64 (x.rv : Int)) (heap_setCell_same _ g (k * 3 + 1) _ _ (.slice x.va x.vl x.vc) (heap_setCell_same w g (k * 3) cur 32 (.string x.k) hh))
  refine ⟨_, h4, by simpa using hs, fun j hj => ?_⟩
  by_cases hjk : j = k
  · subst hjk
    rw [hx]
    refine ⟨?_, ?_, ?_⟩ <;> simp [Array.getElem?_setIfInBounds] <;> omega
  · obtain ⟨e0, e1, e2⟩ := hc j (by omega)
    refine ⟨?_, ?_, ?_⟩
    all_goals rw [Array.getElem?_setIfInBounds_ne (by omega), Array.getElem?_setIfInBounds_ne (by omega), Array.getElem?_setIfInBounds_ne (by omega)]
    · exact e0
    · exact e1
    · exact e2
theorem Row3.ents {w : World} {g n : Nat} {E : Nat → En} (h : Row3 w g n n E) (hk : ∀ j, j < n → BytesAt w (E j).va (E j).vl ∧ (E j).vl ≤ maxLen ∧ (E j).rv < 18446744073709551616) : EntsAt w (some ⟨g, 0, none⟩) n E := by
  intro k hlt
  have hg := h.lt
  obtain ⟨cur, hh, hs, hc⟩ := h
  obtain ⟨e0, e1, e2⟩ := hc k hlt
  refine ⟨⟨g, 0, rfl, hg, ?_, ?_, ?_⟩, hk k hlt⟩
  · rw [cell_of_block hh, Nat.zero_add]; exact e0
  · rw [cell_of_block hh, Nat.zero_add]; exact e1
  · rw [cell_of_block hh, Nat.zero_add]; exact e2

/-- The entries and one more. -/
def more (E : Nat → En) (n : Nat) (x : En) : Nat → En := fun j => if j = n then x else E j
theorem more_lt (E : Nat → En) {n j : Nat} (x : En) (h : j < n) : more E n x j = E j := if_neg (by omega)
theorem more_at (E : Nat → En) (n : Nat) (x : En) : more E n x n = x := if_pos rfl

theorem esum_clo (E : Nat → En) (A : Nat → Option Addr) (C : Nat → Nat) : ∀ n, esum (cloE E A C) n = esum E n
  | 0 => rfl
  | n + 1 => by rw [esum, esum, esum_clo E A C n]; rfl
theorem lsum_clo (L : Nat → Le) (A : Nat → Option Addr) (C : Nat → Nat) : ∀ n, lsum (cloL L A C) n = lsum L n
  | 0 => rfl
  | n + 1 => by rw [lsum, lsum, lsum_clo L A C n]; rfl
theorem esum_more (E : Nat → En) (n : Nat) (x : En) : ∀ k, k ≤ n → esum (more E n x) k = esum E k
  | 0, _ => rfl
  | k + 1, h => by rw [esum, esum, esum_more E n x k (by omega), more_lt E x (by omega)]

/-- The law, with no Go in sight. -/
theorem grows (clock : Int) (revision n dn : Nat) (groups : Int) (S : Nat → ByteArray) (last offices ln : Nat) (L : Nat → Le) (E : Nat → En) (x : En) (A0 A1 B0 B1 : Nat → Option Addr) (C0 C1 D0 D1 : Nat → Nat) :
    szOf clock revision (n + 1) dn groups S last offices ln (cloL L B1 D1) (cloE (more E n x) A1 C1) - szOf clock revision n dn groups S last offices ln (cloL L B0 D0) (cloE E A0 C0) =
      ((fs x.k.size : Nat) : Int) + ((uv x.rv : Nat) : Int) + ((fs x.vl : Nat) : Int) + ((uv (IntKind.u64.wrap ((n + 1 : Nat) : Int)).toNat : Nat) : Int) - ((uv (IntKind.u64.wrap (n : Int)).toNat : Nat) : Int) := by
  unfold szOf base2 base1
  rw [esum_clo, esum_clo, lsum_clo, lsum_clo, esum, esum_more E n x n (Nat.le_refl _), more_at]
  simp only [ent]
  omega

theorem uv10w (x : Int) (w : World) :
    Calls Try.prog 10 #[.int .u64 (IntKind.u64.wrap x)] w fun e w' => e = .returned (.int .i64 (uv (IntKind.u64.wrap x).toNat : Nat)) ∧ w = w' := by
  have h := wrap_range x
  obtain ⟨y, hy⟩ := Int.eq_ofNat_of_zero_le h.1
  rw [hy]
  exact uv10 y (by omega) w

/-- The eight cells of a Head in memory. -/
structure Box8 (w : World) (b : Nat) (clock : Int) (revision mb : Nat) (da : Option Addr) (dn dc last offices g ln : Nat) (groups : Int) : Prop where
  e0 : w.cell? ⟨b, 0, none⟩ = some (.int .i64 clock)
  e1 : w.cell? ⟨b, 1, none⟩ = some (.int .u64 (revision : Int))
  e2 : w.cell? ⟨b, 2, none⟩ = some (.map (some mb))
  e3 : w.cell? ⟨b, 3, none⟩ = some (.slice da dn dc)
  e4 : w.cell? ⟨b, 4, none⟩ = some (.int .u64 (last : Int))
  e5 : w.cell? ⟨b, 5, none⟩ = some (.int .u64 (offices : Int))
  e6 : w.cell? ⟨b, 6, none⟩ = some (.slice (some ⟨g, 0, none⟩) ln ln)
  e7 : w.cell? ⟨b, 7, none⟩ = some (.int .i64 groups)
theorem Box8.below {w w' : World} {b : Nat} {clock : Int} {revision mb : Nat} {da : Option Addr} {dn dc last offices g ln : Nat} {groups : Int} (h : Box8 w b clock revision mb da dn dc last offices g ln groups) {B : Nat} (hb : Below B w w') (hB : b < B) : Box8 w' b clock revision mb da dn dc last offices g ln groups := by
  have hc := fun o => hb.cell (p := ⟨b, o, none⟩) hB
  exact ⟨by rw [hc]; exact h.e0, by rw [hc]; exact h.e1, by rw [hc]; exact h.e2, by rw [hc]; exact h.e3, by rw [hc]; exact h.e4, by rw [hc]; exact h.e5, by rw [hc]; exact h.e6, by rw [hc]; exact h.e7⟩
theorem box8_new (w : World) (clock : Int) (revision mb : Nat) (da : Option Addr) (dn dc last offices g ln : Nat) (groups : Int) :
    Box8 (w.alloc (.cells #[.int .i64 clock, .int .u64 (revision : Int), .map (some mb), .slice da dn dc, .int .u64 (last : Int), .int .u64 (offices : Int), .slice (some ⟨g, 0, none⟩) ln ln, .int .i64 groups] 38)) w.heap.size clock revision mb da dn dc last offices g ln groups := by
  constructor <;> (rw [World.cell?_alloc_new]; rfl)

theorem law_end {w W a b : World} (h : Below w.heap.size w W) (ha : Below W.heap.size W a) (hb : Below a.heap.size a b) : Below w.heap.size w b := by
  have h1 := h.trans (ha.mono h.size)
  exact h1.trans (hb.mono h1.size)

set_option maxRecDepth 100000 in
set_option maxHeartbeats 6400000 in
theorem law3 (clock : Int) (revision : Nat) (ea : Option Addr) (en ec : Nat) (E : Nat → En) (da : Option Addr) (dn dc : Nat) (S : Nat → ByteArray) (last offices : Nat) (la : Option Addr) (ln lc : Nat) (L : Nat → Le) (groups : Int) (key : ByteArray) (va : Option Addr) (vn vc : Nat) (rev : Nat) (w : World)
    (hen : en ≤ maxLen) (hdn : dn ≤ maxLen) (hln : ln ≤ maxLen) (hE : EntsAt w ea en E) (hS : StrsAt w da dn S) (hL : LeasAt w la ln L) (hV : BytesAt w va vn)
    (hks : ∀ j, j < en → (E j).k.size ≤ maxLen) (hkey : key.size ≤ maxLen) (hrevision : revision < 18446744073709551616) (hlast : last < 18446744073709551616) (hoffices : offices < 18446744073709551616) (hrev : rev < 18446744073709551616) :
    Calls Try.prog 3 #[.int .i64 clock, .int .u64 (revision : Int), .slice ea en ec, .slice da dn dc, .int .u64 (last : Int), .int .u64 (offices : Int), .slice la ln lc, .int .i64 groups, .string key, .slice va vn vc, .int .u64 (rev : Int)] w fun e w' => e = .returned (.bool true) ∧ Below w.heap.size w w' := by
  go_enter Try.func3, Try.ntmps3
  go_wp2_with fail
  refine (bytes4 clock revision ea en ec E da dn dc S last offices la ln lc L groups key va vn vc rev w hen hdn hln hE hS hL).mono ?_
  rintro _ w' ⟨⟨x, rfl, hx⟩, rfl⟩
  cases x
  · clear hx
    go_wp2
    go_ret
    exact ⟨rfl, Below.refl _ _⟩
  clear hen hdn hln
  obtain ⟨hen, hdn, hln, hvn, hvl, hkn⟩ := hx rfl
  clear hx
  go_wp2_with fail
  refine (over5 ea en ec E da dn dc S la ln lc L key va vn vc w hen hdn hln hkn hE hS hL).mono ?_
  rintro _ w' ⟨⟨x, rfl⟩, rfl⟩
  cases x
  rotate_left
  · go_wp2
    go_ret
    exact ⟨rfl, Below.refl _ _⟩
  by_cases hn4 : en ≤ 4096
  rotate_left
  · go_wp2
    go_ret
    exact ⟨rfl, Below.refl _ _⟩
  have q4 : decide ((4096 : Int) < (en : Int)) = false := decide_eq_false (by omega)
  go_wp2_with fail
  refine (apart6 ea en ec E w hen hE).mono ?_
  rintro _ w1 ⟨⟨x, rfl, hap⟩, hb1⟩
  cases x
  · clear hap
    go_wp2
    go_ret
    exact ⟨rfl, hb1⟩
  have HAP := hide (hap rfl)
  clear hap
  go_wp2_with fail
  refine (has7 ea en ec E key w1 hen (hE.below hb1 (Nat.le_refl _))).mono ?_
  rintro _ w' ⟨⟨x, rfl, hno⟩, rfl⟩
  cases x
  rotate_left
  · clear hno
    go_wp2
    go_ret
    exact ⟨rfl, hb1⟩
  have HNO := hide (hno rfl)
  clear hno
  obtain ⟨i32, hi32, hz32, hs32, hb32⟩ := info_parts info32
  go_wp2_with (at_make; refine wpList_make_full _ rfl _ _ 23 rfl 0 32 i32 zeroEn 3 Try.underlying23 hi32 hz32 hs32 _ _ _ _ (en + 1) rfl rfl (by simp) (by simp) ?b2 ?b3 (Nat.zero_le _) ?_)
  case b2 => (try rw [hb32]); omega
  case b3 => unfold maxLen; omega
  intro w2 hown hgrow
  have hb2 : Below w.heap.size w w2 := hb1.grown hgrow hb1.size (fun k h => by cases h)
  have hrow : Row3 w2 w1.heap.size (en + 1) 0 (more E en ⟨key, va, vn, vc, rev⟩) := row3_of_owned _ hown
  have hg1 := hb1.size
  clear hown hgrow hb1 q4
  generalize w1.heap.size = g at hrow hg1 ⊢
  go_wp2
  go_loopw [25] (fun kk wr => ∃ k : Nat, k ≤ en ∧ kk = .int .i64 k ∧ Row3 wr g (en + 1) k (more E en ⟨key, va, vn, vc, rev⟩) ∧ Below w.heap.size w wr) (fun kk _ => en - (intOf kk).toNat)
  case atStart => exact ⟨0, Nat.zero_le _, rfl, hrow, hb2⟩
  case round =>
    clear hrow hb2
    obtain ⟨k, hk, rfl, hrow, hbel⟩ := hrel
    by_cases hlt : k < en
    · obtain ⟨⟨b, off, rfl, hb, c0, c1, c2⟩, _, _, _⟩ := hE k hlt
      rw [← hbel.cell (p := ⟨b, _, none⟩) hb] at c0 c1 c2
      have HX := hide (more_lt E ⟨key, va, vn, vc, rev⟩ hlt)
      generalize E k = x at c0 c1 c2 HX
      obtain ⟨k0, v0, l0, cc0, r0⟩ := x
      dsimp only at c0 c1 c2
      obtain ⟨u0, u1, u2, d0, d1, d2, f0, f1, f2⟩ := hrow.cells (j := k) (by omega)
      have hgl := hrow.lt
      clear hE hS hL hvl hkn hks
      go_wp2
      have R := hrow.step (by omega) HX.out
      have RB := ((hbel.setCell (p := ⟨g, k * 3, none⟩) hg1 (.string k0)).setCell (p := ⟨g, k * 3 + 1, none⟩) hg1 (.slice v0 l0 cc0)).setCell (p := ⟨g, k * 3 + 2, none⟩) hg1 (.int .u64 (r0 : Int))
      go_roundw
      case rel => exact ⟨k + 1, by omega, by go_num, R, RB⟩
      case measure => simp [intOf]; omega
    · obtain rfl : k = en := by omega
      obtain ⟨u0, u1, u2, d0, d1, d2, f0, f1, f2⟩ := hrow.cells (j := k) (by omega)
      have hgl := hrow.lt
      go_wp2_with fail
      have R := hrow.step (by omega) (more_at E k ⟨key, va, vn, vc, rev⟩)
      have RB := ((hbel.setCell (p := ⟨g, k * 3, none⟩) hg1 (.string key)).setCell (p := ⟨g, k * 3 + 1, none⟩) hg1 (.slice va vn vc)).setCell (p := ⟨g, k * 3 + 2, none⟩) hg1 (.int .u64 (rev : Int))
      dsimp only at R
      clear d0 d1 d2 f0 f1 f2 hrow hbel hgl
      generalize (((wr.setCell ⟨g, k * 3, none⟩ (.string key)).setCell ⟨g, k * 3 + 1, none⟩ (.slice va vn vc)).setCell ⟨g, k * 3 + 2, none⟩ (.int .u64 (rev : Int))) = W2 at R RB ⊢
      have hE2 := hE.below RB (Nat.le_refl _)
      have hS2 := hS.below RB (Nat.le_refl _)
      have hL2 := hL.below RB (Nat.le_refl _)
      have hM2 := R.ents (fun j hj => by
        by_cases hjk : j < k
        · rw [more_lt E _ hjk]; exact (hE2 j hjk).2
        · obtain rfl : j = k := by omega
          rw [more_at]
          exact ⟨hV.below RB (Nat.le_refl _), by show vn ≤ maxLen; unfold maxLen; omega, hrev⟩)
      have hMvl := all_step (P := fun j => (more E k ⟨key, va, vn, vc, rev⟩ j).vl ≤ 1048576) (k := k) (fun j hj => by rw [more_lt E _ hj]; exact hvl j hj) (by rw [more_at]; exact hvn)
      have hMks := all_step (P := fun j => (more E k ⟨key, va, vn, vc, rev⟩ j).k.size ≤ maxLen) (k := k) (fun j hj => by rw [more_lt E _ hj]; exact hks j hj) (by rw [more_at]; exact hkey)
      have hMap := all_step (P := fun i => ∀ j, j < i → (more E k ⟨key, va, vn, vc, rev⟩ i).k ≠ (more E k ⟨key, va, vn, vc, rev⟩ j).k) (k := k) (fun i hi j hj => by rw [more_lt E _ hi, more_lt E _ (Nat.lt_trans hj hi)]; exact HAP.out i hi j hj) (fun j hj => by rw [more_at, more_lt E _ hj]; exact (HNO.out j hj).symm)
      clear R hE hS hL hV
      refine (build8 clock revision ea k ec E da dn dc S last offices la ln lc L groups W2 hen hdn hln hvl hkn hks HAP.out hE2 hS2 hL2).mono ?_
      rintro _ w3 ⟨⟨mb0, D0, g0, da0, dc0, A0, C0, A0', C0', rfl, hown0, hold0, hleas0, hstr0⟩, hb3⟩
      simp only [headV]
      go_wp2_with fail
      have hA4 : Below w3.heap.size w3 (w3.alloc (.cells #[.int .i64 clock, .int .u64 (revision : Int), .map (some mb0), .slice da0 dn dc0, .int .u64 (last : Int), .int .u64 (offices : Int), .slice (some ⟨g0, 0, none⟩) ln ln, .int .i64 groups] 38)) := (Below.refl _ _).alloc (Nat.le_refl _) _
      have hbx4 := box8_new w3 clock revision mb0 da0 dn dc0 last offices g0 ln groups
      have hs4 : w3.heap.size < (w3.alloc (.cells #[.int .i64 clock, .int .u64 (revision : Int), .map (some mb0), .slice da0 dn dc0, .int .u64 (last : Int), .int .u64 (offices : Int), .slice (some ⟨g0, 0, none⟩) ln ln, .int .i64 groups] 38)).heap.size := by simp
      have hown4 := ownsMap_of_heap hown0 (hA4.block _ hown0.lt)
      have hleas4 := hleas0.below hA4 (Nat.le_refl _)
      have hstr4 := hstr0.below hA4 (Nat.le_refl _)
      have hb24 := hb3.trans (hA4.mono hb3.size)
      clear hA4 hown0 hleas0 hstr0 hb3
      generalize w3.alloc (.cells #[.int .i64 clock, .int .u64 (revision : Int), .map (some mb0), .slice da0 dn dc0, .int .u64 (last : Int), .int .u64 (offices : Int), .slice (some ⟨g0, 0, none⟩) ln ln, .int .i64 groups] 38) = W4 at hbx4 hs4 hown4 hleas4 hstr4 hb24 ⊢
      refine (build8 clock revision (some ⟨g, 0, none⟩) (k + 1) (k + 1) (more E k ⟨key, va, vn, vc, rev⟩) da dn dc S last offices la ln lc L groups W4 (by omega) hdn hln hMvl hkn hMks hMap (hM2.below hb24 (Nat.le_refl _)) (hS2.below hb24 (Nat.le_refl _)) (hL2.below hb24 (Nat.le_refl _))).mono ?_
      rintro _ w5 ⟨⟨mb1, D1, g1, da1, dc1, A1, C1, A1', C1', rfl, hown1, hold1, hleas1, hstr1⟩, hb5⟩
      have hbx5 := hbx4.below hb5 hs4
      have hown5 := ownsMap_of_heap hown4 (hb5.block _ hown4.lt)
      have hleas5 := hleas4.below hb5 (Nat.le_refl _)
      have hstr5 := hstr4.below hb5 (Nat.le_refl _)
      have hb25 : Below W2.heap.size W2 w5 := hb24.trans (hb5.mono hb24.size)
      have hs5 : w3.heap.size < w5.heap.size := Nat.lt_of_lt_of_le hs4 hb5.size
      clear hbx4 hown4 hleas4 hstr4 hb24 hs4 hb5 hM2 hMvl hMks hMap hS2 hL2 hE2
      simp only [headV]
      go_wp2_with fail
      have hA6 : Below w5.heap.size w5 (w5.alloc (.cells #[.int .i64 clock, .int .u64 (revision : Int), .map (some mb1), .slice da1 dn dc1, .int .u64 (last : Int), .int .u64 (offices : Int), .slice (some ⟨g1, 0, none⟩) ln ln, .int .i64 groups] 38)) := (Below.refl _ _).alloc (Nat.le_refl _) _
      have hbxb := box8_new w5 clock revision mb1 da1 dn dc1 last offices g1 ln groups
      have hbxa := hbx5.below hA6 hs5
      have hs6 : w5.heap.size < (w5.alloc (.cells #[.int .i64 clock, .int .u64 (revision : Int), .map (some mb1), .slice da1 dn dc1, .int .u64 (last : Int), .int .u64 (offices : Int), .slice (some ⟨g1, 0, none⟩) ln ln, .int .i64 groups] 38)).heap.size := by simp
      have hown6 := ownsMap_of_heap hown5 (hA6.block _ hown5.lt)
      have hleas6 := hleas5.below hA6 (Nat.le_refl _)
      have hstr6 := hstr5.below hA6 (Nat.le_refl _)
      have hownb := ownsMap_of_heap hown1 (hA6.block _ hown1.lt)
      have hleasb := hleas1.below hA6 (Nat.le_refl _)
      have hstrb := hstr1.below hA6 (Nat.le_refl _)
      have hb26 := hb25.trans (hA6.mono hb25.size)
      have hbw := RB.trans (hb26.mono RB.size)
      clear hA6 hbx5 hown5 hleas5 hstr5 hown1 hleas1 hstr1 hb25 hb26
      generalize w5.alloc (.cells #[.int .i64 clock, .int .u64 (revision : Int), .map (some mb1), .slice da1 dn dc1, .int .u64 (last : Int), .int .u64 (offices : Int), .slice (some ⟨g1, 0, none⟩) ln ln, .int .i64 groups] 38) = W6 at hbxa hbxb hs6 hown6 hleas6 hstr6 hownb hleasb hstrb hbw ⊢
      obtain ⟨V0, hV0, SZ0⟩ : ∃ V0, Hid (V0 = wrap64 (szOf clock revision k dn groups S last offices ln (cloL L A0' C0') (cloE E A0 C0))) ∧ Hid (∀ W', Below W6.heap.size W6 W' → Calls Try.prog 11 #[.agg #[.int .i64 clock, .int .u64 (revision : Int), .map (some mb0), .slice da0 dn dc0, .int .u64 (last : Int), .int .u64 (offices : Int), .slice (some ⟨g0, 0, none⟩) ln ln, .int .i64 groups]] W' fun e w' => e = .returned (.int .i64 V0) ∧ Below W'.heap.size W' w') :=
        ⟨_, rfl, fun W' hb => size11 clock revision mb0 da0 dn dc0 S last offices g0 ln (cloL L A0' C0') groups k D0 (cloE E A0 C0) W' hdn hln hkn hrevision hlast hoffices (ownsMap_of_heap hown6 (hb.block _ hown6.lt)) hold0 (hstr6.below hb (Nat.le_refl _)) (hleas6.below hb (Nat.le_refl _))⟩
      obtain ⟨V1, hV1, SZ1⟩ : ∃ V1, Hid (V1 = wrap64 (szOf clock revision (k + 1) dn groups S last offices ln (cloL L A1' C1') (cloE (more E k ⟨key, va, vn, vc, rev⟩) A1 C1))) ∧ Hid (∀ W', Below W6.heap.size W6 W' → Calls Try.prog 11 #[.agg #[.int .i64 clock, .int .u64 (revision : Int), .map (some mb1), .slice da1 dn dc1, .int .u64 (last : Int), .int .u64 (offices : Int), .slice (some ⟨g1, 0, none⟩) ln ln, .int .i64 groups]] W' fun e w' => e = .returned (.int .i64 V1) ∧ Below W'.heap.size W' w') :=
        ⟨_, rfl, fun W' hb => size11 clock revision mb1 da1 dn dc1 S last offices g1 ln (cloL L A1' C1') groups (k + 1) D1 (cloE (more E k ⟨key, va, vn, vc, rev⟩) A1 C1) W' hdn hln hkn hrevision hlast hoffices (ownsMap_of_heap hownb (hb.block _ hownb.lt)) hold1 (hstrb.below hb (Nat.le_refl _)) (hleasb.below hb (Nat.le_refl _))⟩
      clear hown6 hleas6 hstr6 hownb hleasb hstrb hkn hvl hks hold0 hold1
      refine (fs9 key.size W6).mono ?_
      rintro _ w' ⟨rfl, rfl⟩
      go_wp2_with fail
      refine (uv10 rev hrev W6).mono ?_
      rintro _ w' ⟨rfl, rfl⟩
      go_wp2_with fail
      refine (fs9 vn W6).mono ?_
      rintro _ w' ⟨rfl, rfl⟩
      go_wp2_with fail
      have h10 := uv10 (k + 1) (by omega) W6
      rw [show ((k + 1 : Nat) : Int) = (k : Int) + 1 by omega] at h10
      refine h10.mono ?_
      rintro _ w' ⟨rfl, rfl⟩
      clear h10
      go_wp2_with fail
      refine (uv10 k (by omega) W6).mono ?_
      rintro _ w' ⟨rfl, rfl⟩
      go_wp2_with fail
      have hwt : wrap64 (wrap64 (wrap64 (wrap64 (wrap64 ((fs key.size : Nat) : Int) + ((uv rev : Nat) : Int)) + wrap64 ((fs vn : Nat) : Int)) + ((uv (k + 1) : Nat) : Int)) - ((uv k : Nat) : Int)) = IntKind.i64.wrap (V1 - V0) := by
        rw [wrapEq, hV1.out, hV0.out]
        simp only [wrap_add_l, wrap_add_r, wrap_sub_l, wrap_sub_r]
        rw [grows, u64n_eq, u64n_eq, Int.toNat_natCast, Int.toNat_natCast, u64n_small (n := k + 1) (by omega), u64n_small (n := k) (by omega)]
      rw [hwt]
      clear hwt hV0 hV1 HAP HNO
      have HBX := hide hbxa
      have hsa : w3.heap.size < W6.heap.size := Nat.lt_trans hs5 hs6
      have HBW := hide hbw
      clear hbw
      obtain ⟨a0, a1, a2, a3, a4, a5, a6, a7⟩ := hbxa
      obtain ⟨b0, b1, b2, b3, b4, b5, b6, b7⟩ := hbxb
      go_region_with (first
        | (go_at_call_of 11 (Value.agg #[Value.int IntKind.i64 clock, Value.int IntKind.u64 (↑revision), Value.map (some mb1), Value.slice da1 dn dc1, Value.int IntKind.u64 (↑last), Value.int IntKind.u64 (↑offices), Value.slice (some ⟨g1, 0, none⟩) ln ln, Value.int IntKind.i64 groups]); refine (SZ1.out _ (Below.refl W6.heap.size W6).drew).mono ?_; rintro _ wa ⟨rfl, hba⟩; have hba' : Below W6.heap.size W6 wa := (Below.refl W6.heap.size W6).drew.trans hba; obtain ⟨k0, k1, k2, k3, k4, k5, k6, k7⟩ := HBX.out.below hba' hsa)
        | (go_at_call_of 11 (Value.agg #[Value.int IntKind.i64 clock, Value.int IntKind.u64 (↑revision), Value.map (some mb0), Value.slice da0 dn dc0, Value.int IntKind.u64 (↑last), Value.int IntKind.u64 (↑offices), Value.slice (some ⟨g0, 0, none⟩) ln ln, Value.int IntKind.i64 groups]); refine (SZ0.out _ hba').mono ?_; rintro _ wb ⟨rfl, hbb⟩))
      all_goals
        go_wp2
        go_ret
        exact ⟨rfl, law_end HBW.out hba' hbb⟩
end Go.Proofs.Qxb6630629a
