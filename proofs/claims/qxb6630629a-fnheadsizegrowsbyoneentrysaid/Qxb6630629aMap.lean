/-
  Seat b6630629a: the plain laws of the head's map: what its entries weigh together.
-/
import Derived.Test.Qxb6630629aGuards
import Derived.Maps.RangeWalk
import Derived.Maps.Views
import Derived.Maps.OwnSet
namespace Go.Proofs.Qxb6630629a
open Go.ChangeShapes Go.WideShapes Go.ChangeAt Go.RowKit Plain Go.Maps

abbrev DU := DataW Unit
/-- A key's field. -/
def kb : Lit → Nat
  | .string s => fs s.length
  | _ => 0
/-- What an element reads as: a number. -/
def eb : DU → Int
  | .lit (.int _ x) => x
  | _ => 0
/-- An entry's bytes. -/
def gp (p : Lit × DU) : Int := (kb p.1 : Int) + eb p.2
def sumBy (f : Lit × DU → Int) (es : List (Lit × DU)) : Int := es.foldr (fun p s => f p + s) 0
/-- All entries' bytes. -/
def tot : DU → Int
  | .map es => sumBy gp es
  | _ => 0
/-- The bytes of the entries that are not left. -/
def part (left : Lit → Bool) : DU → Int
  | .map es => sumBy (fun p => if left p.1 then 0 else gp p) es
  | _ => 0

theorem sum_insert (f : Lit × DU → Int) (x : Lit × DU) : ∀ l : List (Lit × DU), sumBy f (DataW.insert x l) = f x + sumBy f l
  | [] => rfl
  | y :: r => by
    unfold DataW.insert
    split
    · rfl
    · have := sum_insert f x r
      simp only [sumBy, List.foldr_cons] at this ⊢
      omega

theorem sum_congr {f g : Lit × DU → Int} : ∀ {l : List (Lit × DU)}, (∀ p ∈ l, f p = g p) → sumBy f l = sumBy g l
  | [], _ => rfl
  | a :: r, h => by
    have h1 := h a (List.mem_cons_self ..)
    have h2 := sum_congr (l := r) fun p hp => h p (List.mem_cons_of_mem _ hp)
    simp only [sumBy, List.foldr_cons] at h2 ⊢
    rw [h1, h2]

theorem tot_put {D : DU} {kl : Lit} (hm : IsMap D) (h : has D kl = false) (d : DU) : tot (D.put kl d) = tot D + gp (kl, d) := by
  obtain ⟨es, rfl⟩ := hm
  have e : es.filter (fun p => !p.1.sameKey kl) = es := by
    rw [List.filter_eq_self]
    intro p hp
    rw [has_eq, List.any_eq_false] at h
    simpa using h p hp
  show sumBy gp (DataW.insert (kl, d) (es.filter fun p => !p.1.sameKey kl)) = sumBy gp es + gp (kl, d)
  rw [e, sum_insert]
  omega

theorem sum_zero : ∀ l : List (Lit × DU), sumBy (fun _ => 0) l = 0
  | [] => rfl
  | _ :: r => by have := sum_zero r; simp only [sumBy, List.foldr_cons] at this ⊢; omega

theorem part_start {es : List (Lit × DU)} (hk : ∀ p ∈ es, WideAt.IsKeyLit p.1) : part (has (.map es)) (.map es) = 0 := by
  show sumBy _ es = 0
  refine (sum_congr (g := fun _ => 0) fun p hp => ?_).trans (sum_zero es)
  have : has (.map es) p.1 = true := List.any_eq_true.2 ⟨p, hp, WideAt.sameKey_self (hk p hp)⟩
  rw [this]
  rfl

theorem part_end {D : DU} {left : Lit → Bool} (h : ∀ kl, left kl = false) : part left D = tot D := by
  cases D <;> try rfl
  show sumBy _ _ = sumBy _ _
  refine sum_congr fun p _ => ?_
  rw [h]
  rfl

theorem sum_step (left : Lit → Bool) (p : Lit × DU) (hl : left p.1 = true) (hk : WideAt.IsKeyLit p.1) : ∀ es : List (Lit × DU), es.Pairwise (fun a b => a.1 ≠ b.1) → p ∈ es →
    sumBy (fun q => if left q.1 && !q.1.sameKey p.1 then 0 else gp q) es = sumBy (fun q => if left q.1 then 0 else gp q) es + gp p
  | [], _, h => by simp at h
  | a :: r, hp, hm => by
    obtain ⟨h1, h2⟩ := List.pairwise_cons.1 hp
    simp only [sumBy, List.foldr_cons]
    rcases List.mem_cons.1 hm with rfl | hm'
    · have e := sum_congr (l := r) (f := fun q => if left q.1 && !q.1.sameKey p.1 then 0 else gp q) (g := fun q => if left q.1 then 0 else gp q) (fun q hq => by
        rw [sameKey_ne (Ne.symm (h1 q hq))]
        simp)
      simp only [sumBy] at e
      rw [e, hl, WideAt.sameKey_self hk]
      simp
      omega
    · have e := sum_step left p hl hk r h2 hm'
      simp only [sumBy] at e
      rw [e, sameKey_ne (h1 p hm')]
      simp
      omega

theorem mem_of_atKey {es : List (Lit × DU)} {kl : Lit} {y : DU} (h : ∀ zd, (DataW.map es).atKey kl zd = y) : ∃ p ∈ es, p.1 = kl ∧ p.2 = y := by
  cases hf : es.find? (fun p => p.1.sameKey kl) with
  | none =>
    have a := h .nil
    have b := h (.map [])
    simp only [DataW.atKey, hf] at a b
    rw [← a] at b
    cases b
  | some p =>
    have a := h .nil
    simp only [DataW.atKey, hf] at a
    refine ⟨p, List.mem_of_find?_eq_some hf, WideAt.sameKey_eq (by simpa using List.find?_some hf), a⟩

theorem part_step {es : List (Lit × DU)} (hp : es.Pairwise (fun a b => a.1 ≠ b.1)) (hk : ∀ p ∈ es, WideAt.IsKeyLit p.1) {left : Lit → Bool} {kl : Lit} {y : DU} (hl : left kl = true) (h : ∀ zd, (DataW.map es).atKey kl zd = y) :
    part (fun z => left z && !z.sameKey kl) (.map es) = part left (.map es) + gp (kl, y) := by
  obtain ⟨p, hm, rfl, rfl⟩ := mem_of_atKey h
  exact sum_step left p hl (hk p hm) es hp hm

/-- How an element of the head's map reads: the bytes of its revision and its value. -/
def mapR (v : Value) : Option (DU × List MemPlace) :=
  match v with
  | .agg ⟨[.slice _ l _, .int .u64 r]⟩ => if 0 ≤ r ∧ r < 18446744073709551616 then some (.lit (.int .i64 ((uv r.toNat + fs l : Nat) : Int)), []) else none
  | _ => none
theorem mapR_mk (a : Option Addr) (l c r : Nat) (hr : r < 18446744073709551616) : mapR (.agg #[.slice a l c, .int .u64 (r : Int)]) = some (.lit (.int .i64 ((uv r + fs l : Nat) : Int)), []) := by
  unfold mapR
  simp
  omega
/-- The shape of an element. -/
structure Elm where
  a : Option Addr
  l : Nat
  c : Nat
  r : Nat
def Elm.val (x : Elm) : Value := .agg #[.slice x.a x.l x.c, .int .u64 (x.r : Int)]
theorem mapR_inv {v : Value} {y : DU × List MemPlace} (h : mapR v = some y) : ∃ x : Elm, v = x.val ∧ x.r < 18446744073709551616 ∧ y = (.lit (.int .i64 ((uv x.r + fs x.l : Nat) : Int)), []) := by
  unfold mapR at h
  split at h
  · rename_i a l c r
    split at h
    · rename_i hr
      refine ⟨⟨a, l, c, r.toNat⟩, ?_, by show r.toNat < _; omega, ?_⟩
      · simp [Elm.val]; omega
      · simp at h; exact h.symm
    · cases h
  · cases h

/-- An entry's bytes. -/
def ent (e : En) : Nat := fs e.k.size + (uv e.rv + fs e.vl)
/-- The first k entries' bytes. -/
def esum (E : Nat → En) : Nat → Nat
  | 0 => 0
  | k + 1 => esum E k + ent (E k)
/-- A key as read. -/
def kl (e : En) : Lit := .string e.k.data.toList
theorem kl_inj {e e' : En} (h : kl e = kl e') : e.k = e'.k := by
  unfold kl at h
  injection h with h
  exact ByteArray.ext (Array.toList_inj.mp h)

/-- The map D holds the first k entries. -/
structure Holds (D : DU) (E : Nat → En) (k : Nat) : Prop where
  isMap : IsMap D
  keys : ∀ x, has D x = true → ∃ j, j < k ∧ x = kl (E j)
  weight : tot D = (esum E k : Nat)
  count : size D = k
theorem holds_zero (E : Nat → En) : Holds (.map []) E 0 := ⟨⟨_, rfl⟩, fun _ h => absurd h Bool.false_ne_true, rfl, rfl⟩
theorem Holds.step {D : DU} {E : Nat → En} {k : Nat} (h : Holds D E k) (ht : Tidy D) (hd : ∀ j, j < k → (E k).k ≠ (E j).k) :
    Holds (D.put (kl (E k)) (.lit (.int .i64 ((uv (E k).rv + fs (E k).vl : Nat) : Int)))) E (k + 1) := by
  have hn : has D (kl (E k)) = false := by
    cases hh : has D (kl (E k))
    · rfl
    · obtain ⟨j, hj, e⟩ := h.keys _ hh
      exact absurd (kl_inj e) (hd j hj)
  refine ⟨?_, ?_, ?_, ?_⟩
  · obtain ⟨es, rfl⟩ := h.isMap
    exact ⟨_, rfl⟩
  · intro x hx
    by_cases hxe : x = kl (E k)
    · exact ⟨k, by omega, hxe⟩
    · rw [has_put_other hxe] at hx
      obtain ⟨j, hj, e⟩ := h.keys x hx
      exact ⟨j, by omega, e⟩
  · rw [tot_put h.isMap hn, h.weight]
    simp [esum, gp, eb, kb, kl, ent]
  · rw [size_put ht, if_neg (by rw [hn]; exact Bool.false_ne_true), h.count]
end Go.Proofs.Qxb6630629a
