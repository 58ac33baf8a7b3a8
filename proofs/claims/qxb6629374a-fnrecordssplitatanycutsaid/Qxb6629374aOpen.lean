/-
  Seat b6629374a: a slice of lines that came in, opened.
-/
import Derived.Test.Qxb6629374aGuards
import Derived.Deep.Slices
import Derived.ChangeArms
import Derived.ProofKit
import Derived.OpenShut
namespace Go.Proofs.Qxb6629374a
open Go.ChangeShapes Go.WideShapes Go.ChangeAt Go.RowKit Go.Deep

theorem cells37 : Try.prog.cellsOf 37 = 5 := by kernel_rfl
theorem cells9 : Try.prog.cellsOf 9 = 1 := by kernel_rfl
theorem cells4 : Try.prog.cellsOf 4 = 1 := by kernel_rfl

theorem list5 {α : Type} (l : List α) (h : l.length = 5) : ∃ a b c d e, l = [a, b, c, d, e] := by
  match l, h with
  | [a, b, c, d, e], _ => exact ⟨a, b, c, d, e, rfl⟩

theorem one_line {H : Type} {enc : TypeId × Value → H} {W : World} {spare : Nat → Bool} {held : Bool} {n : Nat} {cs : List Value} {x : DataW H × List MemPlace} (h : DataW.trod enc Try.prog W 0 spare held n 37 cs = some x) :
    ∃ y : Ln, cs = [.string y.r, .string y.s, .string y.v, .string y.l, .bool y.b] := by
  obtain ⟨xs, m, _, _, hl, hxl, hf⟩ := DataW.trod_struct Try.underlying37 h
  rw [cells37] at hl
  obtain ⟨a, b, c, d, e, rfl⟩ := list5 cs hl
  obtain ⟨x0, x1, x2, x3, x4, rfl⟩ := list5 xs hxl
  have f0 := hf 0 _ rfl
  have f1 := hf 1 _ rfl
  have f2 := hf 2 _ rfl
  have f3 := hf 3 _ rfl
  have f4 := hf 4 _ rfl
  simp [cells9, cells4] at f0 f1 f2 f3 f4
  obtain ⟨r, e0, _⟩ := DataW.trod_string Try.underlying9 f0
  obtain ⟨s, e1, _⟩ := DataW.trod_string Try.underlying9 f1
  obtain ⟨v, e2, _⟩ := DataW.trod_string Try.underlying9 f2
  obtain ⟨l, e3, _⟩ := DataW.trod_string Try.underlying9 f3
  obtain ⟨bb, e4, _⟩ := DataW.trod_bool Try.underlying4 f4
  simp at e0 e1 e2 e3 e4
  exact ⟨⟨r, s, v, l, bb⟩, by rw [e0, e1, e2, e3, e4]⟩

theorem open_lines {H : Type} {enc : TypeId × Value → H} {W : World} {spare : Nat → Bool} {held : Bool} {fuel : Nat} {a0 : Option Addr} {len cap : Nat} {x : DataW H × List MemPlace} (h : DataW.trod enc Try.prog W 0 spare held fuel 22 [.slice a0 len cap] = some x) :
    (a0 = none ∧ len = 0 ∧ cap = 0) ∨ ∃ (a : Addr) (L : Nat → Ln), a0 = some a ∧ len ≤ cap ∧ cap ≤ maxLen ∧ (0 < len → ∃ b off, a = ⟨b, off, none⟩ ∧ b < W.heap.size ∧ LinesAt W b off len L) := by
  rcases open_slice Try.underlying22 h with ⟨hcs, _⟩ | ⟨a, l', c', m, n, D, Pl, hcs, _, hl, hm, hmm, _, hx⟩
  · simp at hcs
    exact .inl hcs
  · simp only [List.cons.injEq, Value.slice.injEq, and_true] at hcs
    obtain ⟨rfl, rfl, rfl⟩ := hcs
    right
    rw [cells37] at hx
    have hlm : len ≤ m := by rw [hmm]; split <;> omega
    obtain ⟨L, hL⟩ := @choose_lt Ln ⟨⟨⟨#[]⟩, ⟨#[]⟩, ⟨#[]⟩, ⟨#[]⟩, false⟩⟩ len (fun i y => W.cells? 0 (a.add (i * 5)) 5 = some [.string y.r, .string y.s, .string y.v, .string y.l, .bool y.b]) (fun i hi => by
      obtain ⟨cs', h1, h2⟩ := hx i (by omega)
      obtain ⟨y, rfl⟩ := one_line h2
      exact ⟨y, h1⟩)
    refine ⟨a, L, rfl, hl, hm, fun h0 => ?_⟩
    have hc0 := (World.cells?_some (hL 0 h0)).2.2 0 (by omega)
    have hsp : a.spot = none := by
      have h' := World.cell?_spot (v := .string (L 0).r) (by simpa using hc0)
      obtain ⟨b, o, s⟩ := a
      simpa [Addr.add] using h'
    obtain ⟨b, off, s⟩ := a
    simp only at hsp
    subst hsp
    refine ⟨b, off, rfl, ?_, ?_⟩
    · rcases Nat.lt_or_ge b W.heap.size with h' | h'
      · exact h'
      · simp [World.cell?, Addr.add, Array.getElem?_eq_none h'] at hc0
    · intro k hk
      have hc := (World.cells?_some (hL k hk)).2.2
      have g0 := hc 0 (by omega)
      have g1 := hc 1 (by omega)
      have g2 := hc 2 (by omega)
      have g3 := hc 3 (by omega)
      have g4 := hc 4 (by omega)
      simp only [add_plain] at g0 g1 g2 g3 g4
      exact ⟨g0, g1, g2, g3, g4⟩
end Go.Proofs.Qxb6629374a
