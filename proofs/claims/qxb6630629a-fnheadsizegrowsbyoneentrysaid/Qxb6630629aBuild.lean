/-
  Seat b6630629a: the walk of zzBuild.
-/
import Derived.Test.Qxb6630629aHead
namespace Go.Proofs.Qxb6630629a
open Go.ChangeShapes Go.WideShapes Go.ChangeAt Go.RowKit Plain Go.Maps

/-- The entries, their values cloned. -/
def cloE (E : Nat → En) (A : Nat → Option Addr) (C : Nat → Nat) : Nat → En := fun j => ⟨(E j).k, A j, (E j).vl, C j, (E j).rv⟩
/-- The leases, their keys cloned. -/
def cloL (L : Nat → Le) (A : Nat → Option Addr) (C : Nat → Nat) : Nat → Le := fun j => ⟨(L j).id, (L j).rn, (L j).ttl, A j, (L j).kn, C j, (L j).ks⟩
def upd {α : Type} (A : Nat → α) (k : Nat) (a : α) : Nat → α := fun j => if j = k then a else A j
theorem upd_lt {α : Type} (A : Nat → α) {k j : Nat} (a : α) (h : j < k) : upd A k a j = A j := if_neg (by omega)
theorem upd_at {α : Type} (A : Nat → α) (k : Nat) (a : α) : upd A k a k = a := if_pos rfl

theorem Row.put {w : World} {g n k : Nat} {t : TypeId} {A : Nat → Option Addr} {l : Nat → Nat} {C : Nat → Nat} (h : Row w g t n k (fun j => .slice (A j) (l j) (C j))) (hk : k < n) (a : Option Addr) (c : Nat) :
    Row (w.setCell ⟨g, k, none⟩ (.slice a (l k) c)) g t n (k + 1) (fun j => .slice (upd A k a j) (l j) (upd C k c j)) :=
  (h.congr (fun j hj => by rw [upd_lt _ _ hj, upd_lt _ _ hj])).step hk (by rw [upd_at, upd_at])

/-- What stands of loop 1. -/
structure One (w : World) (r gK gV gR en k : Nat) (E : Nat → En) (A : Nat → Option Addr) (C : Nat → Nat) : Prop where
  res : Row w r 38 8 0 (fun _ => undef)
  ks : Row w gK 9 en k (fun j => .string (E j).k)
  vs : Row w gV 26 en k (fun j => .slice (A j) (E j).vl (C j))
  rs : Row w gR 22 en k (fun j => .int .u64 ((E j).rv : Int))
theorem One.kept {w w' : World} {r gK gV gR en k : Nat} {E : Nat → En} {A : Nat → Option Addr} {C : Nat → Nat} (h : One w r gK gV gR en k E A C) (e : ∀ p, p < w.heap.size → p = r ∨ p = gK ∨ p = gV ∨ p = gR → w'.heap[p]? = w.heap[p]?) : One w' r gK gV gR en k E A C :=
  ⟨h.res.kept (e _ h.res.lt (by simp)), h.ks.kept (e _ h.ks.lt (by simp)), h.vs.kept (e _ h.vs.lt (by simp)), h.rs.kept (e _ h.rs.lt (by simp))⟩
theorem One.below {w w' : World} {r gK gV gR en k : Nat} {E : Nat → En} {A : Nat → Option Addr} {C : Nat → Nat} (h : One w r gK gV gR en k E A C) (hb : Below w.heap.size w w') : One w' r gK gV gR en k E A C :=
  h.kept fun p hp _ => hb.block p hp

theorem StrsUp.kept {w w' : World} {B n : Nat} {a : Option Addr} {S : Nat → ByteArray} (h : StrsUp w B a n S) (hs : w.heap.size ≤ w'.heap.size) (e : ∀ p, B ≤ p → p < w.heap.size → w'.heap[p]? = w.heap[p]?) : StrsUp w' B a n S := by
  intro k hk
  obtain ⟨b, ea, hB, hl, hc⟩ := h k hk
  exact ⟨b, ea, hB, by omega, by rw [World.cell?_of_block (w := w) (e b hB hl)]; exact hc⟩
theorem StrsUp.at {w : World} {B n : Nat} {a : Option Addr} {S : Nat → ByteArray} (h : StrsUp w B a n S) : StrsAt w a n S := by
  intro k hk
  obtain ⟨b, ea, hB, hl, hc⟩ := h k hk
  exact ⟨b, 0, ea, hl, by rw [Nat.zero_add]; exact hc⟩

/-- Of the blocks at B and above none has turned. -/
structure Abv (B : Nat) (w w' : World) : Prop where
  size : w.heap.size ≤ w'.heap.size
  block : ∀ p, B ≤ p → p < w.heap.size → w'.heap[p]? = w.heap[p]?
theorem Abv.set {B : Nat} (w : World) {g o : Nat} (hg : g < B) (v : Value) : Abv B w (w.setCell ⟨g, o, none⟩ v) :=
  ⟨by simp, fun p hp _ => Below.heap_setCell w ⟨g, o, none⟩ v p (by show p ≠ g; omega)⟩
theorem Abv.trans {B : Nat} {a b c : World} (h : Abv B a b) (k : Abv B b c) : Abv B a c :=
  ⟨Nat.le_trans h.size k.size, fun p hp hl => (k.block p hp (Nat.lt_of_lt_of_le hl h.size)).trans (h.block p hp hl)⟩
theorem Abv.below {B : Nat} {w w' : World} (h : Below w.heap.size w w') : Abv B w w' := ⟨h.size, fun p _ hl => h.block p hl⟩
theorem Abv.set8 {B : Nat} (w : World) {g : Nat} (hg : g < B) (a0 a1 a2 a3 a4 a5 a6 a7 : Value) :
    Abv B w ((((((((w.setCell ⟨g, 0, none⟩ a0).setCell ⟨g, 1, none⟩ a1).setCell ⟨g, 2, none⟩ a2).setCell ⟨g, 3, none⟩ a3).setCell ⟨g, 4, none⟩ a4).setCell ⟨g, 5, none⟩ a5).setCell ⟨g, 6, none⟩ a6).setCell ⟨g, 7, none⟩ a7) :=
  ⟨by simp, fun p hp _ => set8_other w g a0 a1 a2 a3 a4 a5 a6 a7 p (by omega)⟩
theorem StrsUp.abv {w w' : World} {B B' n : Nat} {a : Option Addr} {S : Nat → ByteArray} (h : StrsUp w B' a n S) (hB : B ≤ B') (k : Abv B w w') : StrsUp w' B' a n S :=
  h.kept k.size (fun p hp hl => k.block p (by omega) hl)
theorem LeasAt.move {w w' : World} {r g ln : Nat} {L : Nat → Le} (h : LeasAt w (some ⟨g, 0, none⟩) ln L) (hg : g ≠ r) (hs : w.heap.size ≤ w'.heap.size) (e : ∀ p, p ≠ r → w'.heap[p]? = w.heap[p]?) (hk : ∀ j, j < ln → StrsAt w' (L j).ka (L j).kn (L j).ks) : LeasAt w' (some ⟨g, 0, none⟩) ln L := by
  intro k hlt
  obtain ⟨⟨b, off, eb, hl, c0, c1, c2, c3⟩, _, r'⟩ := h k hlt
  cases eb
  have hc := fun o => World.cell?_of_block (w := w) (w' := w') (a := ⟨g, o, none⟩) (e g hg)
  exact ⟨⟨g, 0, rfl, by omega, by rw [hc]; exact c0, by rw [hc]; exact c1, by rw [hc]; exact c2, by rw [hc]; exact c3⟩, hk k hlt, r'⟩

/-- What stands of loop 2. -/
structure Two (w : World) (gI gN gT gL B ln k : Nat) (L : Nat → Le) (A : Nat → Option Addr) (C : Nat → Nat) : Prop where
  ids : Row w gI 22 ln k (fun j => .int .u64 ((L j).id : Int))
  rns : Row w gN 22 ln k (fun j => .int .u64 ((L j).rn : Int))
  tts : Row w gT 2 ln k (fun j => .int .i64 (L j).ttl)
  kys : Row w gL 24 ln k (fun j => .slice (A j) (L j).kn (C j))
  txt : ∀ j, j < k → StrsUp w B (A j) (L j).kn (L j).ks
  big : B ≤ w.heap.size
theorem StrsUp.mono {w : World} {B B' n : Nat} {a : Option Addr} {S : Nat → ByteArray} (h : StrsUp w B' a n S) (hB : B ≤ B') : StrsUp w B a n S := by
  intro k hk
  obtain ⟨b, e, h1, r⟩ := h k hk
  exact ⟨b, e, by omega, r⟩
theorem txt_step {w : World} {B k : Nat} {L : Nat → Le} {A : Nat → Option Addr} (h : ∀ j, j < k → StrsUp w B (A j) (L j).kn (L j).ks) {a : Option Addr} (ha : StrsUp w B a (L k).kn (L k).ks) : ∀ j, j < k + 1 → StrsUp w B (upd A k a j) (L j).kn (L j).ks := by
  refine all_step (fun j hj => ?_) ?_
  · rw [upd_lt _ _ hj]; exact h j hj
  · rw [upd_at]; exact ha

/-- It returned a Head, cloned of these. -/
def BuildB (w : World) (clock : Int) (revision : Nat) (E : Nat → En) (n : Nat) (dn : Nat) (S : Nat → ByteArray) (last offices : Nat) (L : Nat → Le) (ln : Nat) (groups : Int) (e : Ending) : Prop :=
  ∃ mb D g da dc A C A' C', e = .returned (headV clock revision mb da dn dc last offices g ln groups) ∧ w.ownsMap Try.prog 9 mapR mb n D ∧ Holds D (cloE E A C) n ∧ LeasAt w (some ⟨g, 0, none⟩) ln (cloL L A' C') ∧ StrsAt w da dn S

set_option maxRecDepth 100000 in
set_option maxHeartbeats 6400000 in
theorem build8 (clock : Int) (revision : Nat) (ea : Option Addr) (en ec : Nat) (E : Nat → En) (da : Option Addr) (dn dc : Nat) (S : Nat → ByteArray) (last offices : Nat) (la : Option Addr) (ln lc : Nat) (L : Nat → Le) (groups : Int) (w : World)
    (hen : en ≤ 1048576) (hdn : dn ≤ 1048576) (hln : ln ≤ 1048576) (hvl : ∀ j, j < en → (E j).vl ≤ 1048576) (hkn : ∀ j, j < ln → (L j).kn ≤ 1048576) (hks : ∀ j, j < en → (E j).k.size ≤ maxLen) (hap : ∀ i, i < en → ∀ j, j < i → (E i).k ≠ (E j).k)
    (hE : EntsAt w ea en E) (hS : StrsAt w da dn S) (hL : LeasAt w la ln L) :
    Calls Try.prog 8 #[.int .i64 clock, .int .u64 (revision : Int), .slice ea en ec, .slice da dn dc, .int .u64 (last : Int), .int .u64 (offices : Int), .slice la ln lc, .int .i64 groups] w
      fun e w' => BuildB w' clock revision E en dn S last offices L ln groups e ∧ Below w.heap.size w w' := by
  obtain ⟨i9, hi9, hz9, hs9, hb9⟩ := info_parts info9
  obtain ⟨i26, hi26, hz26, hs26, hb26⟩ := info_parts info26
  obtain ⟨i22, hi22, hz22, hs22, hb22⟩ := info_parts info22
  go_enter Try.func8, Try.ntmps8
  go_wp2_with (at_make; refine wpList_make_full _ rfl _ _ 24 rfl 0 9 i9 (.string ⟨#[]⟩) 1 Try.underlying24 hi9 hz9 hs9 _ _ _ _ en rfl rfl rfl rfl ?b2 ?b3 (Nat.zero_le _) ?_)
  case b2 => (try rw [hb9]); omega
  case b3 => unfold maxLen; omega
  intro w1 hown hgrow
  have hbel1 : Below w.heap.size w w1 := ((Below.refl _ _).alloc (Nat.le_refl _) _).grown hgrow (by simp) (fun k h => by cases h)
  have hres1 : Row w1 w.heap.size 38 8 0 (fun _ => undef) := by
    refine Row.kept (w := w.alloc _) ⟨#[.int .i64 0, .int .u64 0, .map none, .slice none 0 0, .int .u64 0, .int .u64 0, .slice none 0 0, .int .i64 0], (MapKept.heap_alloc w _).1, rfl, fun j hj => absurd hj (Nat.not_lt_zero _)⟩ (hgrow.block _ (by simp) (by simp))
  have hK1 : Row w1 (w.heap.size + 1) 9 en 0 (fun j => .string (E j).k) := row_of_owned _ hown
  clear hown hgrow
  go_wp2_with (at_make; refine wpList_make_full _ rfl _ _ 46 rfl 0 26 i26 (.slice none 0 0) 1 Try.underlying46 hi26 hz26 hs26 _ _ _ _ en rfl rfl rfl rfl ?b2 ?b3 (Nat.zero_le _) ?_)
  case b2 => (try rw [hb26]); omega
  case b3 => unfold maxLen; omega
  intro w2 hown hgrow
  have hlt1 := hK1.lt
  have hbel2 : Below w.heap.size w w2 := hbel1.grown hgrow hbel1.size (fun k h => by cases h)
  have hres2 := hres1.kept (hgrow.block _ hres1.lt (by simp))
  have hK2 := hK1.kept (hgrow.block _ hK1.lt (by simp))
  have hV2 : Row w2 w1.heap.size 26 en 0 (fun j => .slice ((fun _ => none : Nat → Option Addr) j) (E j).vl ((fun _ => 0 : Nat → Nat) j)) := row_of_owned _ hown
  clear hown hgrow hres1 hK1 hbel1
  generalize w1.heap.size = gV at hV2 hlt1 ⊢
  go_wp2_with (at_make; refine wpList_make_full _ rfl _ _ 47 rfl 0 22 i22 (.int .u64 0) 1 Try.underlying47 hi22 hz22 hs22 _ _ _ _ en rfl rfl rfl rfl ?b2 ?b3 (Nat.zero_le _) ?_)
  case b2 => (try rw [hb22]); omega
  case b3 => unfold maxLen; omega
  intro w3 hown hgrow
  have hlt2 := hV2.lt
  have hbel3 : Below w.heap.size w w3 := hbel2.grown hgrow hbel2.size (fun k h => by cases h)
  have hR3 : Row w3 w2.heap.size 22 en 0 (fun j => .int .u64 ((E j).rv : Int)) := row_of_owned _ hown
  have h3 : One w3 w.heap.size (w.heap.size + 1) gV w2.heap.size en 0 E (fun _ => none) (fun _ => 0) :=
    ⟨hres2.kept (hgrow.block _ hres2.lt (by simp)), hK2.kept (hgrow.block _ hK2.lt (by simp)), hV2.kept (hgrow.block _ hV2.lt (by simp)), hR3⟩
  clear hown hgrow hres2 hK2 hV2 hR3 hbel2
  generalize w2.heap.size = gR at h3 hlt2 ⊢
  go_wp2
  go_loopw [20] (fun kk wr => ∃ (k : Nat) (A : Nat → Option Addr) (C : Nat → Nat), k ≤ en ∧ kk = .int .i64 k ∧ One wr w.heap.size (w.heap.size + 1) gV gR en k E A C ∧ Below w.heap.size w wr) (fun kk _ => en - (intOf kk).toNat)
  case atStart => exact ⟨0, _, _, Nat.zero_le _, rfl, h3, hbel3⟩
  case round =>
    clear h3 hbel3
    obtain ⟨k, A, C, hk, rfl, h1, hbel⟩ := hrel
    by_cases hlt : k < en
    · obtain ⟨⟨b, off, rfl, hb, c0, c1, c2⟩, hv, _, hrv⟩ := hE k hlt
      have hl0 := hvl k hlt
      clear hE hS hL hvl hkn hks hap
      obtain ⟨hres, hK, hV, hR⟩ := h1
      obtain ⟨u0, d0⟩ := hK.at hlt
      have f0 := hK.free k
      have hKl := hK.lt
      rw [← hbel.cell (p := ⟨b, _, none⟩) hb] at c0 c1 c2
      go_wp2_with fail
      have hb1 : Below w.heap.size w (wr.setCell ⟨w.heap.size + 1, k, none⟩ (.string (E k).k)) := hbel.setCell (p := ⟨w.heap.size + 1, _, none⟩) (Nat.le_succ _) _
      refine (clone13 _ _ _ _ hl0 (hv.below hb1 (Nat.le_refl _))).mono ?_
      rintro _ w4 ⟨⟨a', c', rfl⟩, hb4⟩
      have hbel4 : Below w.heap.size w w4 := hb1.trans (hb4.mono hb1.size)
      have hsz4 : (wr.setCell ⟨w.heap.size + 1, k, none⟩ (.string (E k).k)).heap.size = wr.heap.size := by simp
      have hK4 := (hK.step hlt (v := .string (E k).k) rfl).below hb4 (by rw [hsz4]; exact hK.lt)
      have hV4 := (hV.other (g' := w.heap.size + 1) (o := k) (by omega) (.string (E k).k)).below hb4 (by rw [hsz4]; exact hV.lt)
      have hR4 := (hR.other (g' := w.heap.size + 1) (o := k) (by omega) (.string (E k).k)).below hb4 (by rw [hsz4]; exact hR.lt)
      have hres4 := (hres.other (g' := w.heap.size + 1) (o := k) (by omega) (.string (E k).k)).below hb4 (by rw [hsz4]; exact hres.lt)
      rw [hbel.cell (p := ⟨b, _, none⟩) hb, ← hbel4.cell (p := ⟨b, _, none⟩) hb] at c2
      clear hK hV hR hres hb4 hb1 hbel c0 c1 d0 f0 hsz4 hv hKl
      obtain ⟨u1, d1⟩ := hV4.at hlt
      have f1 := hV4.free k
      obtain ⟨u2, d2⟩ := hR4.at hlt
      have f2 := hR4.free k
      have hVl := hV4.lt
      have hRl := hR4.lt
      go_wp2
      have R : One ((w4.setCell ⟨gV, k, none⟩ (.slice a' (E k).vl c')).setCell ⟨gR, k, none⟩ (.int .u64 ((E k).rv : Int))) w.heap.size (w.heap.size + 1) gV gR en (k + 1) E (upd A k a') (upd C k c') :=
        ⟨(hres4.other (by omega) _).other (by omega) _, (hK4.other (by omega) _).other (by omega) _, (hV4.put hlt a' c').other (by omega) _, (hR4.other (by omega) _).step hlt rfl⟩
      have RB := (hbel4.setCell (p := ⟨gV, k, none⟩) (show w.heap.size ≤ gV by omega) (.slice a' (E k).vl c')).setCell (p := ⟨gR, k, none⟩) (show w.heap.size ≤ gR by omega) (.int .u64 ((E k).rv : Int))
      go_roundw
      case rel => exact ⟨k + 1, _, _, by omega, by go_num, R, RB⟩
      case measure => simp [intOf]; omega
    · obtain rfl : k = en := by omega
      obtain ⟨i2, hi2, hz2, hs2, hb2⟩ := info_parts info2
      obtain ⟨i24, hi24, hz24, hs24, hb24⟩ := info_parts info24
      have hl3 := h1.rs.lt
      go_wp2_with (at_make; refine wpList_make_full _ rfl _ _ 47 rfl 0 22 i22 (.int .u64 0) 1 Try.underlying47 hi22 hz22 hs22 _ _ _ _ ln rfl rfl rfl rfl ?b2 ?b3 (Nat.zero_le _) ?_)
      case b2 => (try rw [hb22]); omega
      case b3 => unfold maxLen; omega
      intro m1 hown hgrow
      have hB1 : Below w.heap.size w m1 := hbel.grown hgrow hbel.size (fun k h => by cases h)
      have o1 := h1.kept (fun p hp _ => hgrow.block p hp (by simp))
      have hI1 : Row m1 wr.heap.size 22 ln 0 (fun j => .int .u64 ((L j).id : Int)) := row_of_owned _ hown
      clear hown hgrow h1 hbel
      generalize wr.heap.size = gI at hI1 hl3 ⊢
      go_wp2_with (at_make; refine wpList_make_full _ rfl _ _ 47 rfl 0 22 i22 (.int .u64 0) 1 Try.underlying47 hi22 hz22 hs22 _ _ _ _ ln rfl rfl rfl rfl ?b2 ?b3 (Nat.zero_le _) ?_)
      case b2 => (try rw [hb22]); omega
      case b3 => unfold maxLen; omega
      intro m2 hown hgrow
      have hl4 := hI1.lt
      have hB2 : Below w.heap.size w m2 := hB1.grown hgrow hB1.size (fun k h => by cases h)
      have o2 := o1.kept (fun p hp _ => hgrow.block p hp (by simp))
      have hI2 := hI1.kept (hgrow.block _ hI1.lt (by simp))
      have hN2 : Row m2 m1.heap.size 22 ln 0 (fun j => .int .u64 ((L j).rn : Int)) := row_of_owned _ hown
      clear hown hgrow o1 hB1 hI1
      generalize m1.heap.size = gN at hN2 hl4 ⊢
      go_wp2_with (at_make; refine wpList_make_full _ rfl _ _ 49 rfl 0 2 i2 (.int .i64 0) 1 Try.underlying49 hi2 hz2 hs2 _ _ _ _ ln rfl rfl rfl rfl ?b2 ?b3 (Nat.zero_le _) ?_)
      case b2 => (try rw [hb2]); omega
      case b3 => unfold maxLen; omega
      intro m3 hown hgrow
      have hl5 := hN2.lt
      have hB3 : Below w.heap.size w m3 := hB2.grown hgrow hB2.size (fun k h => by cases h)
      have o3 := o2.kept (fun p hp _ => hgrow.block p hp (by simp))
      have hI3 := hI2.kept (hgrow.block _ hI2.lt (by simp))
      have hN3 := hN2.kept (hgrow.block _ hN2.lt (by simp))
      have hT3 : Row m3 m2.heap.size 2 ln 0 (fun j => .int .i64 (L j).ttl) := row_of_owned _ hown
      clear hown hgrow o2 hB2 hI2 hN2
      generalize m2.heap.size = gT at hT3 hl5 ⊢
      go_wp2_with (at_make; refine wpList_make_full _ rfl _ _ 50 rfl 0 24 i24 (.slice none 0 0) 1 Try.underlying50 hi24 hz24 hs24 _ _ _ _ ln rfl rfl rfl rfl ?b2 ?b3 (Nat.zero_le _) ?_)
      case b2 => (try rw [hb24]); omega
      case b3 => unfold maxLen; omega
      intro m4 hown hgrow
      have hl6 := hT3.lt
      have hB4 : Below w.heap.size w m4 := hB3.grown hgrow hB3.size (fun k h => by cases h)
      have o4 := o3.kept (fun p hp _ => hgrow.block p hp (by simp))
      have hL4 : Row m4 m3.heap.size 24 ln 0 (fun j => .slice ((fun _ => none : Nat → Option Addr) j) (L j).kn ((fun _ => 0 : Nat → Nat) j)) := row_of_owned _ hown
      have hl7 := hL4.lt
      have t4 : Two m4 gI gN gT m3.heap.size m4.heap.size ln 0 L (fun _ => none) (fun _ => 0) :=
        ⟨hI3.kept (hgrow.block _ hI3.lt (by simp)), hN3.kept (hgrow.block _ hN3.lt (by simp)), hT3.kept (hgrow.block _ hT3.lt (by simp)), hL4, fun j hj => absurd hj (Nat.not_lt_zero _), Nat.le_refl _⟩
      clear hown hgrow o3 hB3 hI3 hN3 hT3 hL4
      have hl8 : m4.heap.size ≤ m4.heap.size := Nat.le_refl _
      generalize hB0 : m4.heap.size = B0 at t4 hl7 hl8
      clear hl8
      generalize m3.heap.size = gL at t4 hl6 hl7 ⊢
      clear hB0
      go_wp2
      go_loopw [25] (fun kk wr => ∃ (j : Nat) (A' : Nat → Option Addr) (C' : Nat → Nat), j ≤ ln ∧ kk = .int .i64 j ∧ One wr w.heap.size (w.heap.size + 1) gV gR k k E A C ∧ Two wr gI gN gT gL B0 ln j L A' C' ∧ Below w.heap.size w wr) (fun kk _ => ln - (intOf kk).toNat)
      case atStart => exact ⟨0, _, _, Nat.zero_le _, rfl, o4, t4, hB4⟩
      case round =>
        clear o4 t4 hB4
        obtain ⟨j, A', C', hj, rfl, h1, h2, hbel⟩ := hrel
        by_cases hjt : j < ln
        · obtain ⟨⟨b, off, rfl, hb, c0, c1, c2, c3⟩, hv, _, _, _⟩ := hL j hjt
          have hl0 := hkn j hjt
          clear hE hS hL hvl hkn hks hap
          obtain ⟨hI, hN, hT, hK, hX, hbig⟩ := h2
          obtain ⟨u0, d0⟩ := hI.at hjt
          obtain ⟨u1, d1⟩ := hN.at hjt
          obtain ⟨u2, d2⟩ := hT.at hjt
          have f0 := hI.free j
          have f1 := hN.free j
          have f2 := hT.free j
          rw [← hbel.cell (p := ⟨b, _, none⟩) hb] at c0 c1 c2 c3
          go_wp2_with fail
          have hb1 : Below w.heap.size w (((wr.setCell ⟨gI, j, none⟩ (.int .u64 ((L j).id : Int))).setCell ⟨gN, j, none⟩ (.int .u64 ((L j).rn : Int))).setCell ⟨gT, j, none⟩ (.int .i64 (L j).ttl)) :=
            ((hbel.setCell (p := ⟨gI, j, none⟩) (show w.heap.size ≤ gI by omega) _).setCell (p := ⟨gN, j, none⟩) (show w.heap.size ≤ gN by omega) _).setCell (p := ⟨gT, j, none⟩) (show w.heap.size ≤ gT by omega) _
          have hbg : Below gI wr (((wr.setCell ⟨gI, j, none⟩ (.int .u64 ((L j).id : Int))).setCell ⟨gN, j, none⟩ (.int .u64 ((L j).rn : Int))).setCell ⟨gT, j, none⟩ (.int .i64 (L j).ttl)) :=
            (((Below.refl _ _).setCell (p := ⟨gI, j, none⟩) (Nat.le_refl _) _).setCell (p := ⟨gN, j, none⟩) (show gI ≤ gN by omega) _).setCell (p := ⟨gT, j, none⟩) (show gI ≤ gT by omega) _
          have hab : Abv B0 wr (((wr.setCell ⟨gI, j, none⟩ (.int .u64 ((L j).id : Int))).setCell ⟨gN, j, none⟩ (.int .u64 ((L j).rn : Int))).setCell ⟨gT, j, none⟩ (.int .i64 (L j).ttl)) :=
            ((Abv.set wr (show gI < B0 by omega) _).trans (Abv.set _ (show gN < B0 by omega) _)).trans (Abv.set _ (show gT < B0 by omega) _)
          have hI3 := ((hI.step hjt (v := .int .u64 ((L j).id : Int)) rfl).other (g' := gN) (o := j) (by omega) (.int .u64 ((L j).rn : Int))).other (g' := gT) (o := j) (by omega) (.int .i64 (L j).ttl)
          have hN3 := ((hN.other (g' := gI) (o := j) (by omega) (.int .u64 ((L j).id : Int))).step hjt (v := .int .u64 ((L j).rn : Int)) rfl).other (g' := gT) (o := j) (by omega) (.int .i64 (L j).ttl)
          have hT3 := ((hT.other (g' := gI) (o := j) (by omega) (.int .u64 ((L j).id : Int))).other (g' := gN) (o := j) (by omega) (.int .u64 ((L j).rn : Int))).step hjt (v := .int .i64 (L j).ttl) rfl
          have hK3 := ((hK.other (g' := gI) (o := j) (by omega) (.int .u64 ((L j).id : Int))).other (g' := gN) (o := j) (by omega) (.int .u64 ((L j).rn : Int))).other (g' := gT) (o := j) (by omega) (.int .i64 (L j).ttl)
          have h13 := h1.kept (fun p _ hp => hbg.block p (by omega))
          have hX3 := fun i hi => (hX i hi).abv (Nat.le_refl _) hab
          have hbig3 := Nat.le_trans hbig hab.size
          clear h1 hI hN hT hK hX hab hbg hbel hbig c0 c1 c2 c3 d0 d1 d2 f0 f1 f2
          generalize (((wr.setCell ⟨gI, j, none⟩ (.int .u64 ((L j).id : Int))).setCell ⟨gN, j, none⟩ (.int .u64 ((L j).rn : Int))).setCell ⟨gT, j, none⟩ (.int .i64 (L j).ttl)) = W3 at *
          refine (clone14 _ _ _ _ W3 hl0 (hv.below hb1 (Nat.le_refl _))).mono ?_
          rintro _ w4 ⟨⟨a', c', rfl, hup⟩, hb4⟩
          have h14 := h13.below hb4
          have hI4 := hI3.below hb4 hI3.lt
          have hN4 := hN3.below hb4 hN3.lt
          have hT4 := hT3.below hb4 hT3.lt
          have hK4 := hK3.below hb4 hK3.lt
          have hX4 := txt_step (fun i hi => (hX3 i hi).abv (Nat.le_refl _) (Abv.below hb4)) (hup.mono hbig3)
          have hbel4 : Below w.heap.size w w4 := hb1.trans (hb4.mono hb1.size)
          have hbig4 := Nat.le_trans hbig3 hb4.size
          clear h13 hI3 hN3 hT3 hK3 hX3 hbig3 hup hb4 hb1 hv
          obtain ⟨u3, d3⟩ := hK4.at hjt
          have f3 := hK4.free j
          have hKl := hK4.lt
          go_wp2
          have hst := Abv.set (B := B0) (o := j) w4 (show gL < B0 by omega) (.slice a' (L j).kn c')
          have R1 := h14.kept (w' := w4.setCell ⟨gL, j, none⟩ (.slice a' (L j).kn c')) (fun p _ hp => Below.heap_setCell w4 ⟨gL, j, none⟩ _ p (by show p ≠ gL; omega))
          have R2 : Two (w4.setCell ⟨gL, j, none⟩ (.slice a' (L j).kn c')) gI gN gT gL B0 ln (j + 1) L (upd A' j a') (upd C' j c') :=
            ⟨hI4.other (by omega) _, hN4.other (by omega) _, hT4.other (by omega) _, hK4.put hjt a' c', fun i hi => (hX4 i hi).abv (Nat.le_refl _) hst, Nat.le_trans hbig4 hst.size⟩
          have RB := hbel4.setCell (p := ⟨gL, j, none⟩) (show w.heap.size ≤ gL by omega) (.slice a' (L j).kn c')
          go_roundw
          case rel => exact ⟨j + 1, _, _, by omega, by go_num, R1, R2, RB⟩
          case measure => simp [intOf]; omega
        · obtain rfl : j = ln := by omega
          go_wp2_with fail
          refine (clone14 _ _ _ _ wr hdn (hS.below hbel (Nat.le_refl _))).mono ?_
          rintro _ w5 ⟨⟨a5, c5, rfl, hup⟩, hb5⟩
          have h15 := h1.below hb5
          obtain ⟨hI, hN, hT, hK, hX, hbig⟩ := h2
          have hI5 := hI.below hb5 hI.lt
          have hN5 := hN.below hb5 hN.lt
          have hT5 := hT.below hb5 hT.lt
          have hK5 := hK.below hb5 hK.lt
          have hX5 := fun i hi => (hX i hi).abv (Nat.le_refl _) (Abv.below hb5)
          have hbel5 : Below w.heap.size w w5 := hbel.trans (hb5.mono hbel.size)
          have hup5 := hup.mono hbig
          have hbig5 := Nat.le_trans hbig hb5.size
          have hLk : ∀ i, i < j → StrsAt w5 (cloL L A' C' i).ka (cloL L A' C' i).kn (cloL L A' C' i).ks ∧ (cloL L A' C' i).kn ≤ maxLen ∧ (cloL L A' C' i).id < 18446744073709551616 ∧ (cloL L A' C' i).rn < 18446744073709551616 :=
            fun i hi => ⟨(hX5 i hi).at, (hL i hi).2.2⟩
          have hhd := head15 clock revision (w.heap.size + 1) gV gR k (cloE E A C) a5 dn c5 last offices gI gN gT gL j (cloL L A' C') groups w5 hen hln (fun i hi => h15.ks.cell hi) (fun i hi => h15.vs.cell hi) (fun i hi => h15.rs.cell hi)
            (fun i hi => (hE i hi).2.2.2) hks hap (fun i hi => hI5.cell hi) (fun i hi => hN5.cell hi) (fun i hi => hT5.cell hi) (fun i hi => hK5.cell hi) hLk
          have hr5 := h15.res
          have hrl := hr5.lt
          clear h15 h1 hI hN hT hK hX hI5 hN5 hT5 hK5 hLk hup hb5 hbel hbig hE hS hL hvl hkn hks hap
          go_wp2_with fail
          refine hhd.mono ?_
          rintro _ w6 ⟨⟨mb, D, g, rfl, hown, hold, hleas, hmb, hg⟩, hb6⟩
          clear hhd
          have hres := hr5.below hb6 hrl
          have hbel6 : Below w.heap.size w w6 := hbel5.trans (hb6.mono hbel5.size)
          have hX6 := fun i hi => (hX5 i hi).abv (Nat.le_refl _) (Abv.below hb6)
          have hup6 := hup5.abv (Nat.le_refl _) (Abv.below hb6)
          clear hX5 hup5 hbel5 hb6 hr5
          obtain ⟨u0, d0⟩ := hres.at (j := 0) (by omega)
          obtain ⟨u1, d1⟩ := hres.at (j := 1) (by omega)
          obtain ⟨u2, d2⟩ := hres.at (j := 2) (by omega)
          obtain ⟨u3, d3⟩ := hres.at (j := 3) (by omega)
          obtain ⟨u4, d4⟩ := hres.at (j := 4) (by omega)
          obtain ⟨u5, d5⟩ := hres.at (j := 5) (by omega)
          obtain ⟨u6, d6⟩ := hres.at (j := 6) (by omega)
          obtain ⟨u7, d7⟩ := hres.at (j := 7) (by omega)
          have f0 := hres.free 0
          have f1 := hres.free 1
          have f2 := hres.free 2
          have f3 := hres.free 3
          have f4 := hres.free 4
          have f5 := hres.free 5
          have f6 := hres.free 6
          have f7 := hres.free 7
          simp only [headV]
          go_wp2
          refine bodyPost_ret (v := headV clock revision mb a5 dn c5 last offices g j groups) (by simp [results, Try.results8, go_sem, headV, d0, d1, d2, d3, d4, d5, d6, d7]) rfl ?_
          have R3 := fun p hp => set8_other w6 w.heap.size (.int .i64 clock) (.int .u64 (revision : Int)) (.map (some mb)) (.slice a5 dn c5) (.int .u64 (last : Int)) (.int .u64 (offices : Int)) (.slice (some ⟨g, 0, none⟩) j j) (.int .i64 groups) p hp
          have R4 := Abv.set8 (B := B0) w6 (g := w.heap.size) (by omega) (.int .i64 clock) (.int .u64 (revision : Int)) (.map (some mb)) (.slice a5 dn c5) (.int .u64 (last : Int)) (.int .u64 (offices : Int)) (.slice (some ⟨g, 0, none⟩) j j) (.int .i64 groups)
          have R2 := hbel6.setCell (p := ⟨w.heap.size, 0, none⟩) (Nat.le_refl _) (.int .i64 clock) |>.setCell (p := ⟨w.heap.size, 1, none⟩) (Nat.le_refl _) (.int .u64 (revision : Int)) |>.setCell (p := ⟨w.heap.size, 2, none⟩) (Nat.le_refl _) (.map (some mb))
            |>.setCell (p := ⟨w.heap.size, 3, none⟩) (Nat.le_refl _) (.slice a5 dn c5) |>.setCell (p := ⟨w.heap.size, 4, none⟩) (Nat.le_refl _) (.int .u64 (last : Int)) |>.setCell (p := ⟨w.heap.size, 5, none⟩) (Nat.le_refl _) (.int .u64 (offices : Int))
            |>.setCell (p := ⟨w.heap.size, 6, none⟩) (Nat.le_refl _) (.slice (some ⟨g, 0, none⟩) j j) |>.setCell (p := ⟨w.heap.size, 7, none⟩) (Nat.le_refl _) (.int .i64 groups)
          exact ⟨⟨mb, D, g, a5, c5, A, C, A', C', rfl, ownsMap_of_heap hown (R3 _ (by omega)), hold, hleas.move (by omega) R4.size R3 (fun i hi => ((hX6 i hi).abv (Nat.le_refl _) R4).at), (hup6.abv (Nat.le_refl _) R4).at⟩, R2⟩
end Go.Proofs.Qxb6630629a
