/-
  Seat b6630629a: the slices that came in, opened.
-/
import Derived.Test.Qxb6630629aGuards
import Derived.Deep.Slices
import Derived.ChangeArms
import Derived.ProofKit
import Derived.OpenShut
namespace Go.Proofs.Qxb6630629a
open Go.ChangeShapes Go.WideShapes Go.ChangeAt Go.RowKit Go.Deep

theorem cells32 : Try.prog.cellsOf 32 = 3 := by kernel_rfl
theorem cells44 : Try.prog.cellsOf 44 = 4 := by kernel_rfl
theorem cells9 : Try.prog.cellsOf 9 = 1 := by kernel_rfl
theorem cells5 : Try.prog.cellsOf 5 = 1 := by kernel_rfl
theorem cells26 : Try.prog.cellsOf 26 = 1 := by kernel_rfl
theorem cells24 : Try.prog.cellsOf 24 = 1 := by kernel_rfl
theorem cells22 : Try.prog.cellsOf 22 = 1 := by kernel_rfl
theorem cells2 : Try.prog.cellsOf 2 = 1 := by kernel_rfl

theorem plain_addr {W : World} {a : Addr} {v : Value} (h : W.cell? (a.add 0) = some v) : ∃ b off, a = ⟨b, off, none⟩ ∧ b < W.heap.size := by
  have h' := World.cell?_spot h
  obtain ⟨b, o, s⟩ := a
  simp only [Addr.add, if_true] at h'
  subst h'
  refine ⟨b, o, rfl, ?_⟩
  rcases Nat.lt_or_ge b W.heap.size with h'' | h''
  · exact h''
  · simp [World.cell?, Addr.add, Array.getElem?_eq_none h''] at h

theorem u64_nat {z : Int} (h : (Lit.int .u64 z).wf = true) : ∃ n : Nat, z = (n : Int) ∧ n < 18446744073709551616 := by
  have h' : 0 ≤ z ∧ z < 18446744073709551616 := by
    have h1 : IntKind.u64.min ≤ z ∧ z ≤ IntKind.u64.max := by simpa [Lit.wf] using h
    have e1 : IntKind.u64.min = 0 := by decide
    have e2 : IntKind.u64.max = 18446744073709551615 := by decide
    rw [e1, e2] at h1
    omega
  obtain ⟨n, rfl⟩ := Int.eq_ofNat_of_zero_le h'.1
  exact ⟨n, rfl, by omega⟩

section
variable {H : Type} {enc : TypeId × Value → H} {W : World} {spare : Nat → Bool} {held : Bool}

theorem open_strs {fuel : Nat} {cs : List Value} {x : DataW H × List MemPlace} (h : DataW.trod enc Try.prog W 0 spare held fuel 24 cs = some x) :
    ∃ a n c S, cs = [.slice a n c] ∧ n ≤ maxLen ∧ StrsAt W a n S := by
  rcases open_slice1 Try.underlying24 cells9 h with ⟨rfl, _⟩ | ⟨a, l, c, m, n, V, D, Pl, rfl, _, hl, hm, hmm, _, hx⟩
  · exact ⟨none, 0, 0, fun _ => ⟨#[]⟩, rfl, Nat.zero_le _, fun k hk => absurd hk (Nat.not_lt_zero _)⟩
  · have hlm : l ≤ m := by rw [hmm]; split <;> omega
    obtain ⟨S, hS⟩ := @choose_lt ByteArray ⟨⟨#[]⟩⟩ l (fun i y => W.cell? (a.add i) = some (.string y)) (fun i hi => by
      obtain ⟨h1, h2⟩ := hx i (by omega)
      obtain ⟨s, e, _⟩ := DataW.trod_string Try.underlying9 h2
      simp only [List.cons.injEq, and_true] at e
      exact ⟨s, by rw [h1, e]⟩)
    refine ⟨some a, l, c, S, rfl, by omega, fun k hk => ?_⟩
    obtain ⟨b, off, rfl, hb⟩ := plain_addr (hS 0 (by omega))
    exact ⟨b, off, rfl, hb, by simpa only [add_plain] using hS k hk⟩

theorem open_bytes {fuel : Nat} {cs : List Value} {x : DataW H × List MemPlace} (h : DataW.trod enc Try.prog W 0 spare held fuel 26 cs = some x) :
    ∃ a n c, cs = [.slice a n c] ∧ n ≤ maxLen ∧ BytesAt W a n := by
  rcases open_ints Try.underlying26 Try.underlying5 cells5 h with ⟨rfl, _⟩ | ⟨a, l, c, zs, rfl, _, hl, hm, hz, _, hx, _⟩
  · exact ⟨none, 0, 0, rfl, Nat.zero_le _, fun k hk => absurd hk (Nat.not_lt_zero _)⟩
  · have hlm : l ≤ zs.length := by rw [hz]; split <;> omega
    refine ⟨some a, l, c, rfl, by omega, fun k hk => ?_⟩
    have h1 := hx k (by omega)
    obtain ⟨b, off, rfl, hb⟩ := plain_addr (hx 0 (by omega))
    exact ⟨b, off, rfl, hb, _, by simpa only [add_plain] using h1⟩

theorem list3 {α : Type} (l : List α) (h : l.length = 3) : ∃ a b c, l = [a, b, c] := by
  match l, h with
  | [a, b, c], _ => exact ⟨a, b, c, rfl⟩
theorem list4 {α : Type} (l : List α) (h : l.length = 4) : ∃ a b c d, l = [a, b, c, d] := by
  match l, h with
  | [a, b, c, d], _ => exact ⟨a, b, c, d, rfl⟩

theorem one_entry {n : Nat} {cs : List Value} {x : DataW H × List MemPlace} (h : DataW.trod enc Try.prog W 0 spare held n 32 cs = some x) :
    ∃ y : En, cs = [.string y.k, .slice y.va y.vl y.vc, .int .u64 (y.rv : Int)] ∧ BytesAt W y.va y.vl ∧ y.vl ≤ maxLen ∧ y.rv < 18446744073709551616 ∧ y.k.size ≤ maxLen := by
  obtain ⟨xs, m, _, _, hl, hxl, hf⟩ := DataW.trod_struct Try.underlying32 h
  rw [cells32] at hl
  obtain ⟨a, b, c, rfl⟩ := list3 cs hl
  obtain ⟨x0, x1, x2, rfl⟩ := list3 xs hxl
  have f0 := hf 0 _ rfl
  have f1 := hf 1 _ rfl
  have f2 := hf 2 _ rfl
  simp [cells9, cells26, cells22] at f0 f1 f2
  obtain ⟨k, e0, _, hk⟩ := DataW.trod_string Try.underlying9 f0
  obtain ⟨va, vl, vc, e1, hv, hB⟩ := open_bytes f1
  obtain ⟨z, e2, _, hz⟩ := DataW.trod_int Try.underlying22 f2
  obtain ⟨r, rfl, hr⟩ := u64_nat hz
  simp at e0 e1 e2
  exact ⟨⟨k, va, vl, vc, r⟩, by rw [e0, e1, e2], hB, hv, hr, hk⟩

theorem one_lease {n : Nat} {cs : List Value} {x : DataW H × List MemPlace} (h : DataW.trod enc Try.prog W 0 spare held n 44 cs = some x) :
    ∃ y : Le, cs = [.int .u64 (y.id : Int), .int .u64 (y.rn : Int), .int .i64 y.ttl, .slice y.ka y.kn y.kc] ∧ StrsAt W y.ka y.kn y.ks ∧ y.kn ≤ maxLen ∧ y.id < 18446744073709551616 ∧ y.rn < 18446744073709551616 := by
  obtain ⟨xs, m, _, _, hl, hxl, hf⟩ := DataW.trod_struct Try.underlying44 h
  rw [cells44] at hl
  obtain ⟨a, b, c, d, rfl⟩ := list4 cs hl
  obtain ⟨x0, x1, x2, x3, rfl⟩ := list4 xs hxl
  have f0 := hf 0 _ rfl
  have f1 := hf 1 _ rfl
  have f2 := hf 2 _ rfl
  have f3 := hf 3 _ rfl
  simp [cells22, cells2, cells24] at f0 f1 f2 f3
  obtain ⟨z0, e0, _, hz0⟩ := DataW.trod_int Try.underlying22 f0
  obtain ⟨z1, e1, _, hz1⟩ := DataW.trod_int Try.underlying22 f1
  obtain ⟨z2, e2, _, hz2⟩ := DataW.trod_int Try.underlying2 f2
  obtain ⟨ka, kn, kc, ks, e3, hkn, hK⟩ := open_strs f3
  obtain ⟨i, rfl, hi⟩ := u64_nat hz0
  obtain ⟨r, rfl, hr⟩ := u64_nat hz1
  simp at e0 e1 e2 e3
  exact ⟨⟨i, r, z2, ka, kn, kc, ks⟩, by rw [e0, e1, e2, e3], hK, hkn, hi, hr⟩

theorem open_ents {fuel : Nat} {cs : List Value} {x : DataW H × List MemPlace} (h : DataW.trod enc Try.prog W 0 spare held fuel 23 cs = some x) :
    ∃ a n c E, cs = [.slice a n c] ∧ n ≤ maxLen ∧ EntsAt W a n E ∧ ∀ j, j < n → (E j).k.size ≤ maxLen := by
  rcases open_slice Try.underlying23 h with ⟨rfl, _⟩ | ⟨a, l, c, m, n, D, Pl, rfl, _, hl, hm, hmm, _, hx⟩
  · exact ⟨none, 0, 0, fun _ => ⟨⟨#[]⟩, none, 0, 0, 0⟩, rfl, Nat.zero_le _, fun k hk => absurd hk (Nat.not_lt_zero _), fun k hk => absurd hk (Nat.not_lt_zero _)⟩
  · rw [cells32] at hx
    have hlm : l ≤ m := by rw [hmm]; split <;> omega
    obtain ⟨E, hE⟩ := @choose_lt En ⟨⟨⟨#[]⟩, none, 0, 0, 0⟩⟩ l (fun i y => W.cells? 0 (a.add (i * 3)) 3 = some [.string y.k, .slice y.va y.vl y.vc, .int .u64 (y.rv : Int)] ∧ BytesAt W y.va y.vl ∧ y.vl ≤ maxLen ∧ y.rv < 18446744073709551616 ∧ y.k.size ≤ maxLen) (fun i hi => by
      obtain ⟨cs', h1, h2⟩ := hx i (by omega)
      obtain ⟨y, rfl, hy⟩ := one_entry h2
      exact ⟨y, h1, hy⟩)
    refine ⟨some a, l, c, E, rfl, by omega, fun k hk => ?_, fun k hk => (hE k hk).2.2.2.2⟩
    obtain ⟨h1, hB, hv, hr, _⟩ := hE k hk
    have hc := (World.cells?_some h1).2.2
    have g0 := hc 0 (by omega)
    have g1 := hc 1 (by omega)
    have g2 := hc 2 (by omega)
    obtain ⟨b, off, rfl, hb⟩ : ∃ b off, a = ⟨b, off, none⟩ ∧ b < W.heap.size := by
      have z0 := (World.cells?_some (hE 0 (by omega)).1).2.2 0 (by omega)
      exact plain_addr (v := .string (E 0).k) (by simpa [Addr.add] using z0)
    simp only [add_plain] at g0 g1 g2
    exact ⟨⟨b, off, rfl, hb, g0, g1, g2⟩, hB, hv, hr⟩

theorem open_leas {fuel : Nat} {cs : List Value} {x : DataW H × List MemPlace} (h : DataW.trod enc Try.prog W 0 spare held fuel 25 cs = some x) :
    ∃ a n c L, cs = [.slice a n c] ∧ n ≤ maxLen ∧ LeasAt W a n L := by
  rcases open_slice Try.underlying25 h with ⟨rfl, _⟩ | ⟨a, l, c, m, n, D, Pl, rfl, _, hl, hm, hmm, _, hx⟩
  · exact ⟨none, 0, 0, fun _ => ⟨0, 0, 0, none, 0, 0, fun _ => ⟨#[]⟩⟩, rfl, Nat.zero_le _, fun k hk => absurd hk (Nat.not_lt_zero _)⟩
  · rw [cells44] at hx
    have hlm : l ≤ m := by rw [hmm]; split <;> omega
    obtain ⟨L, hL⟩ := @choose_lt Le ⟨⟨0, 0, 0, none, 0, 0, fun _ => ⟨#[]⟩⟩⟩ l (fun i y => W.cells? 0 (a.add (i * 4)) 4 = some [.int .u64 (y.id : Int), .int .u64 (y.rn : Int), .int .i64 y.ttl, .slice y.ka y.kn y.kc] ∧ StrsAt W y.ka y.kn y.ks ∧ y.kn ≤ maxLen ∧ y.id < 18446744073709551616 ∧ y.rn < 18446744073709551616) (fun i hi => by
      obtain ⟨cs', h1, h2⟩ := hx i (by omega)
      obtain ⟨y, rfl, hy⟩ := one_lease h2
      exact ⟨y, h1, hy⟩)
    refine ⟨some a, l, c, L, rfl, by omega, fun k hk => ?_⟩
    obtain ⟨h1, hr⟩ := hL k hk
    have hc := (World.cells?_some h1).2.2
    have g0 := hc 0 (by omega)
    have g1 := hc 1 (by omega)
    have g2 := hc 2 (by omega)
    have g3 := hc 3 (by omega)
    obtain ⟨b, off, rfl, hb⟩ : ∃ b off, a = ⟨b, off, none⟩ ∧ b < W.heap.size := by
      have z0 := (World.cells?_some (hL 0 (by omega)).1).2.2 0 (by omega)
      exact plain_addr (v := .int .u64 ((L 0).id : Int)) (by simpa [Addr.add] using z0)
    simp only [add_plain] at g0 g1 g2 g3
    exact ⟨⟨b, off, rfl, hb, g0, g1, g2, g3⟩, hr⟩
end
end Go.Proofs.Qxb6630629a
