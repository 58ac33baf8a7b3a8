/-
  Seat b6630629a: FnHeadSizeGrowsByOneEntry: the row, after the guide's frame for several arguments.
-/
import Derived.Test.Qxb6630629aRows
import Derived.Test.Qxb6630629aLaw
import Derived.Test.Qxb6630629aOpen
import Derived.WalkKit
import Derived.ProofKit
import Derived.OpenShut
import Derived.ShutString
import Derived.ChangeOld
import Derived.Below
namespace Go.Proofs.Qxb6630629a.Grow
open Go.ChangeShapes Go.WideShapes Go.ChangeAt Go.RowKit

theorem own : ownKnob Try.prog.godebug = none := by kernel_rfl
theorem laidOut : laidOutB Try.prog = true := by kernel_rfl

set_option maxRecDepth 100000 in
theorem lifted (os : Os) (started : os.Started) (H : Type) (enc : TypeId × Value → H) :
    ReturnsInHanded {} Try.checked os 3 .any (Rows.fnHeadSizeGrowsByOneEntrySpec.pre6 enc Try.prog Try.f3 Rows.fnHeadSizeGrowsByOneEntryRow.domain false) (Rows.fnHeadSizeGrowsByOneEntrySpec.post enc Try.prog Try.f3 false true false false) := by
  refine returnsInHanded_of_change (C := Try.checked) own started (by kernel_rfl) Try.func3
    (ChangeSpec.witness6 (enc := enc) (C := Try.checked) false ⟨#[], #[.int .i64 0, .int .u64 0, .slice none 0 0, .slice none 0 0, .int .u64 0, .int .u64 0, .slice none 0 0, .int .i64 0, .string ByteArray.empty, .slice none 0 0, .int .u64 0], []⟩ 8 (by kernel_rfl) (by kernel_rfl) (by kernel_rfl) (by kernel_rfl)) ?_
  intro W base args ds gs before hval0 hW hcnd _
  have hval : ∀ (j : Nat) t v, Try.f3.params[j]? = some t → args[j]? = some v → Value.okWide Try.prog W .any base t v := hval0
  have hW' := hW
  obtain ⟨p, q, hA0, hV, rfl, hfz, hnd⟩ := hW
  have hA : DataW.TrodAll enc Try.prog W 0 (fun _ => true) true Try.f3.params.toList args.toList ds p := hA0
  rw [Try.params3] at hA hval
  obtain ⟨v0, vs0, d0, ds0, p0, q0, hargs, rfl, rfl, h0, r0⟩ := trodAll_cons hA
  obtain ⟨v1, vs1, d1, ds1, p1, q1, rfl, rfl, rfl, h1, r1⟩ := trodAll_cons r0
  obtain ⟨v2, vs2, d2, ds2, p2, q2, rfl, rfl, rfl, h2, r2⟩ := trodAll_cons r1
  obtain ⟨v3, vs3, d3, ds3, p3, q3, rfl, rfl, rfl, h3, r3⟩ := trodAll_cons r2
  obtain ⟨v4, vs4, d4, ds4, p4, q4, rfl, rfl, rfl, h4, r4⟩ := trodAll_cons r3
  obtain ⟨v5, vs5, d5, ds5, p5, q5, rfl, rfl, rfl, h5, r5⟩ := trodAll_cons r4
  obtain ⟨v6, vs6, d6, ds6, p6, q6, rfl, rfl, rfl, h6, r6⟩ := trodAll_cons r5
  obtain ⟨v7, vs7, d7, ds7, p7, q7, rfl, rfl, rfl, h7, r7⟩ := trodAll_cons r6
  obtain ⟨v8, vs8, d8, ds8, p8, q8, rfl, rfl, rfl, h8, r8⟩ := trodAll_cons r7
  obtain ⟨v9, vs9, d9, ds9, p9, q9, rfl, rfl, rfl, h9, r9⟩ := trodAll_cons r8
  obtain ⟨v10, vs10, d10, ds10, p10, q10, rfl, rfl, rfl, h10, r10⟩ := trodAll_cons r9
  obtain ⟨rfl, rfl, rfl⟩ := trodAll_nil r10
  obtain rfl : args = #[v0, v1, v2, v3, v4, v5, v6, v7, v8, v9, v10] := by cases args; simp_all
  obtain ⟨rfl, rfl⟩ := trodVars_none hV
  obtain ⟨a0, rfl, rfl, rfl, w0⟩ := open_int Try.underlying2 (hval 0 2 v0 rfl rfl) h0
  obtain ⟨a1, rfl, rfl, rfl, w1⟩ := open_int Try.underlying22 (hval 1 22 v1 rfl rfl) h1
  obtain ⟨e0, en, ec, rfl⟩ := okWide_slice Try.underlying23 (hval 2 23 v2 rfl rfl)
  obtain ⟨s0, sn, sc, rfl⟩ := okWide_slice Try.underlying24 (hval 3 24 v3 rfl rfl)
  obtain ⟨a4, rfl, rfl, rfl, w4⟩ := open_int Try.underlying22 (hval 4 22 v4 rfl rfl) h4
  obtain ⟨a5, rfl, rfl, rfl, w5⟩ := open_int Try.underlying22 (hval 5 22 v5 rfl rfl) h5
  obtain ⟨l0, ln, lc, rfl⟩ := okWide_slice Try.underlying25 (hval 6 25 v6 rfl rfl)
  obtain ⟨a7, rfl, rfl, rfl, w7⟩ := open_int Try.underlying3 (hval 7 3 v7 rfl rfl) h7
  obtain ⟨a8, rfl, rfl, rfl, w8⟩ := ChangeMaps.open_string Try.underlying9 (hval 8 9 v8 rfl rfl) h8
  obtain ⟨b0, bn, bc, rfl⟩ := okWide_slice Try.underlying26 (hval 9 26 v9 rfl rfl)
  obtain ⟨a10, rfl, rfl, rfl, w10⟩ := open_int Try.underlying22 (hval 10 22 v10 rfl rfl) h10
  have k2 := h2
  have k3 := h3
  have k6 := h6
  have k9 := h9
  have lt2 : ∀ x ∈ p2, x.block < W.heap.size := by obtain ⟨m, hm⟩ := k2; exact DataW.trod_lt m _ _ _ hm
  have lt3 : ∀ x ∈ p3, x.block < W.heap.size := by obtain ⟨m, hm⟩ := k3; exact DataW.trod_lt m _ _ _ hm
  have lt6 : ∀ x ∈ p6, x.block < W.heap.size := by obtain ⟨m, hm⟩ := k6; exact DataW.trod_lt m _ _ _ hm
  have lt9 : ∀ x ∈ p9, x.block < W.heap.size := by obtain ⟨m, hm⟩ := k9; exact DataW.trod_lt m _ _ _ hm
  obtain ⟨E, hen, hE, hks⟩ : ∃ E, en ≤ maxLen ∧ EntsAt W e0 en E ∧ ∀ j, j < en → (E j).k.size ≤ maxLen := by
    obtain ⟨fuel, hf⟩ := h2
    obtain ⟨a, n, c, E, e, r⟩ := open_ents hf
    simp only [Value.cells] at e
    cases e
    exact ⟨E, r⟩
  obtain ⟨S, hsn, hS⟩ : ∃ S, sn ≤ maxLen ∧ StrsAt W s0 sn S := by
    obtain ⟨fuel, hf⟩ := h3
    obtain ⟨a, n, c, S, e, r⟩ := open_strs hf
    simp only [Value.cells] at e
    cases e
    exact ⟨S, r⟩
  obtain ⟨L, hln, hL⟩ : ∃ L, ln ≤ maxLen ∧ LeasAt W l0 ln L := by
    obtain ⟨fuel, hf⟩ := h6
    obtain ⟨a, n, c, L, e, r⟩ := open_leas hf
    simp only [Value.cells] at e
    cases e
    exact ⟨L, r⟩
  obtain ⟨_, hB⟩ : bn ≤ maxLen ∧ BytesAt W b0 bn := by
    obtain ⟨fuel, hf⟩ := h9
    obtain ⟨a, n, c, e, r⟩ := open_bytes hf
    simp only [Value.cells] at e
    cases e
    exact r
  obtain ⟨n1, rfl, hn1⟩ := u64_nat w1
  obtain ⟨n4, rfl, hn4⟩ := u64_nat w4
  obtain ⟨n5, rfl, hn5⟩ := u64_nat w5
  obtain ⟨n10, rfl, hn10⟩ := u64_nat w10
  clear hA0 hval0
  refine (law3 a0 n1 e0 en ec E s0 sn sc S n4 n5 l0 ln lc L a7 a8 b0 bn bc n10 W hen hsn hln hE hS hL hB hks w8 hn1 hn4 hn5 hn10).mono fun e W' ⟨he, bel⟩ => ?_
  subst he
  exact ⟨_, rfl, _, _, _, [], _, [], hW', trodAll_mk1 (shut_bool Try.underlying4 _), (trodAll_cons_mk (shut_int Try.underlying2 w0) (trodAll_cons_mk (shut_int Try.underlying22 w1)
    (trodAll_cons_mk (Below.trod laidOut (by kernel_rfl) (of_decide_eq_true (by kernel_rfl)) k2 bel lt2) (trodAll_cons_mk (Below.trod laidOut (by kernel_rfl) (of_decide_eq_true (by kernel_rfl)) k3 bel lt3)
    (trodAll_cons_mk (shut_int Try.underlying22 w4) (trodAll_cons_mk (shut_int Try.underlying22 w5) (trodAll_cons_mk (Below.trod laidOut (by kernel_rfl) (of_decide_eq_true (by kernel_rfl)) k6 bel lt6)
    (trodAll_cons_mk (shut_int Try.underlying3 w7) (trodAll_cons_mk (ChangeMaps.shut_string Try.underlying9 w8) (trodAll_cons_mk (Below.trod laidOut (by kernel_rfl) (of_decide_eq_true (by kernel_rfl)) k9 bel lt9) (trodAll_cons_mk (shut_int Try.underlying22 w10) trodAll_mk0))))))))))), rfl, bel.frame _, fun h => by cases h⟩

theorem over : Rows.fnHeadSizeGrowsByOneEntryRow.holds Try.pinned (OpenSpec.ofChange Rows.fnHeadSizeGrowsByOneEntrySpec) :=
  OpenClaim.holds_of_wide 3 Try.f3 rfl rfl rfl rfl rfl rfl rfl ⟨rfl, rfl, rfl, rfl, rfl⟩ rfl rfl rfl rfl rfl (by kernel_rfl) Try.func3 (by kernel_rfl)
    (of_decide_eq_true (by kernel_rfl)) (by unfold Func.isWrapper; first | (rw [if_pos (by decide +kernel)]; kernel_rfl) | (rw [if_neg (by decide +kernel)]; exact ⟨rfl, rfl⟩))
    (fun os started H enc _ => lifted os started H enc)

/-- ████ THE STATEMENT ████ -/
theorem proved : Rows.FnHeadSizeGrowsByOneEntrySaid := over
#print axioms proved
end Go.Proofs.Qxb6630629a.Grow
