/-
  Seat b6629374a: FnRecordsSplitAtAnyCut: the row, after the guide's frame for a slice and an int (shells, 'bytes-and-an-int').
-/
import Derived.Test.Qxb6629374aRows
import Derived.Test.Qxb6629374aSplitNil
import Derived.Test.Qxb6629374aOpen
import Derived.WalkKit
import Derived.ProofKit
import Derived.OpenShut
import Derived.ChangeOld
import Derived.Below
namespace Go.Proofs.Qxb6629374a.Split
open Go.ChangeShapes Go.WideShapes Go.ChangeAt Go.RowKit

theorem own : ownKnob Try.prog.godebug = none := by kernel_rfl
theorem laidOut : laidOutB Try.prog = true := by kernel_rfl

theorem walk (a0 : Option Addr) (len cap : Nat) (i : Int) (w : World)
    (h : (a0 = none ∧ len = 0 ∧ cap = 0) ∨ ∃ (a : Addr) (L : Nat → Ln), a0 = some a ∧ len ≤ cap ∧ cap ≤ maxLen ∧ (0 < len → ∃ b off, a = ⟨b, off, none⟩ ∧ b < w.heap.size ∧ LinesAt w b off len L)) :
    Calls Try.prog 3 #[.slice a0 len cap, .int .i64 i] w fun e w' => e = .returned (.bool true) ∧ Below w.heap.size w w' := by
  rcases h with ⟨rfl, rfl, rfl⟩ | ⟨a, L, rfl, hl, hm, hL⟩
  · by_cases hi : i < 0 ∨ 0 < i
    · exact split_nil_out i w hi
    · obtain rfl : i = 0 := by omega
      exact split_nil (fun _ => ⟨⟨#[]⟩, ⟨#[]⟩, ⟨#[]⟩, ⟨#[]⟩, false⟩) w
  · by_cases hi : i < 0 ∨ (len : Int) < i
    · exact split_out a len cap i L w (by omega) hi hL
    · obtain ⟨m, rfl⟩ := Int.eq_ofNat_of_zero_le (show 0 ≤ i by omega)
      obtain ⟨r, rfl⟩ : ∃ r, len = m + r := ⟨len - m, by omega⟩
      exact split_in a m r cap L w (by omega) hl hL

set_option maxRecDepth 100000 in
theorem lifted (os : Os) (started : os.Started) (H : Type) (enc : TypeId × Value → H) :
    ReturnsInHanded {} Try.checked os 3 .any (Rows.fnRecordsSplitAtAnyCutSpec.pre6 enc Try.prog Try.f3 Rows.fnRecordsSplitAtAnyCutRow.domain false) (Rows.fnRecordsSplitAtAnyCutSpec.post enc Try.prog Try.f3 false true false false) := by
  refine returnsInHanded_of_change (C := Try.checked) own started (by kernel_rfl) Try.func3
    (ChangeSpec.witness6 (enc := enc) (C := Try.checked) false ⟨#[], #[.slice none 0 0, .int .i64 0], []⟩ 8 (by kernel_rfl) (by kernel_rfl) (by kernel_rfl) (by kernel_rfl)) ?_
  intro W base args ds gs before hval0 hW hcnd _
  have hval : ∀ (j : Nat) t v, Try.f3.params[j]? = some t → args[j]? = some v → Value.okWide Try.prog W .any base t v := hval0
  have hW' := hW
  obtain ⟨p, q, hA0, hV, rfl, hfz, hnd⟩ := hW
  have hA : DataW.TrodAll enc Try.prog W 0 (fun _ => true) true Try.f3.params.toList args.toList ds p := hA0
  rw [Try.params3] at hA hval
  obtain ⟨v0, vs0, d0, ds0, p0, q0, hargs, rfl, rfl, h0, r0⟩ := trodAll_cons hA
  obtain ⟨v1, vs1, d1, ds1, p1, q1, rfl, rfl, rfl, h1, r1⟩ := trodAll_cons r0
  obtain ⟨rfl, rfl, rfl⟩ := trodAll_nil r1
  obtain rfl : args = #[v0, v1] := by cases args; simp_all
  obtain ⟨rfl, rfl⟩ := trodVars_none hV
  obtain ⟨a0, len0, cap0, rfl⟩ := okWide_slice Try.underlying22 (hval 0 22 v0 rfl rfl)
  have k0 := h0
  have lt0 : ∀ x ∈ p0, x.block < W.heap.size := by obtain ⟨m, hm⟩ := k0; exact DataW.trod_lt m _ _ _ hm
  have w0 : (a0 = none ∧ len0 = 0 ∧ cap0 = 0) ∨ ∃ (a : Addr) (L : Nat → Ln), a0 = some a ∧ len0 ≤ cap0 ∧ cap0 ≤ maxLen ∧ (0 < len0 → ∃ b off, a = ⟨b, off, none⟩ ∧ b < W.heap.size ∧ LinesAt W b off len0 L) := by
    obtain ⟨fuel, hf⟩ := h0
    exact open_lines (by simpa [Value.cells] using hf)
  obtain ⟨a1, rfl, rfl, rfl, w1⟩ := open_int Try.underlying3 (hval 1 3 v1 rfl rfl) h1
  clear hA0 hval0
  refine (walk a0 len0 cap0 a1 W w0).mono fun e W' ⟨he, bel⟩ => ?_
  subst he
  exact ⟨_, rfl, _, _, _, [], _, [], hW', trodAll_mk1 (shut_bool Try.underlying4 _), (trodAll_cons_mk (Below.trod laidOut (by kernel_rfl) (of_decide_eq_true (by kernel_rfl)) k0 bel lt0) (trodAll_cons_mk (shut_int Try.underlying3 w1) trodAll_mk0)), rfl, bel.frame _, fun h => by cases h⟩

theorem over : Rows.fnRecordsSplitAtAnyCutRow.holds Try.pinned (OpenSpec.ofChange Rows.fnRecordsSplitAtAnyCutSpec) :=
  OpenClaim.holds_of_wide 3 Try.f3 rfl rfl rfl rfl rfl rfl rfl ⟨rfl, rfl, rfl, rfl, rfl⟩ rfl rfl rfl rfl rfl (by kernel_rfl) Try.func3 (by kernel_rfl)
    (of_decide_eq_true (by kernel_rfl)) (by unfold Func.isWrapper; first | (rw [if_pos (by decide +kernel)]; kernel_rfl) | (rw [if_neg (by decide +kernel)]; exact ⟨rfl, rfl⟩))
    (fun os started H enc _ => lifted os started H enc)

/-- ████ THE STATEMENT ████ -/
theorem proved : Rows.FnRecordsSplitAtAnyCutSaid := over
#print axioms proved
end Go.Proofs.Qxb6629374a.Split
