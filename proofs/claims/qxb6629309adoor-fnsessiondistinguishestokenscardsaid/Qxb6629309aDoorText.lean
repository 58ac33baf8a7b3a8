/-
  Seat b6629309aD: the walk of (session.Token).String: a region that draws its order and holds two calls.
-/
import Derived.Test.Qxb6629309aDoorFmt
import Derived.Test.Qxb6629309aDoorPlain
import Derived.Deep.RegionWith
import Derived.Deep.QuietTactic
import Derived.BigQuiet
import Derived.WalkKit
import Derived.ProofKit
import Derived.WalkSpells
import Derived.WalkSmall
import Derived.Outline
namespace Go.Proofs.Qxb6629309aDoor
open Go.ChangeShapes Go.WideShapes Go.ChangeAt Go.RowKit
open Plain

theorem tabIs_below {w w' : World} {name : String} {k : IntKind} {zs : List Int} (hb : Below w.heap.size w w') (h : Lib.TabIs Tryd.prog w name k zs) : Lib.TabIs Tryd.prog w' name k zs := by
  unfold Lib.TabIs World.var? at *
  cases hg : Tryd.prog.globalNamed name with
  | none => simp [hg] at h
  | some g =>
    simp only [hg, Option.bind_some] at h ⊢
    have hlt : g < w.heap.size := by
      rcases Nat.lt_or_ge g w.heap.size with h' | h'
      · exact h'
      · rw [Array.getElem?_eq_none h'] at h; simp at h
    rw [hb.block g hlt]
    exact h

theorem fmt_b (u : Nat) (E : ByteArray) (hE : Hid (E = ⟨(Lib.decDigits u).toArray⟩)) (hu64 : u < 18446744073709551616) (w : World) (htab : Lib.TabIs Tryd.prog w Tryd.powName .u64 Lib.pow10Tab) :
    Calls Tryd.prog 17 #[.int .u64 u, .int .i64 10] w fun e w' => e = .returned (.string E) ∧ Below w.heap.size w w' ∧ Lib.TabIs Tryd.prog w' Tryd.powName .u64 Lib.pow10Tab := by
  rw [hE.out]
  refine (fmt_any u hu64 w htab).mono fun e w' ⟨he, k, os, hw⟩ => ?_
  have hb : Below w.heap.size w w' := by rw [hw]; exact Lib.below_grow w.heap.size w (Nat.le_refl _) k os
  exact ⟨he, hb, tabIs_below hb htab⟩

theorem cell_box {w w1 : World} {a b : Value} (hb : Below (w.alloc (.cells #[a, b] 46)).drew.heap.size (w.alloc (.cells #[a, b] 46)).drew w1) : w1.cell? ⟨w.heap.size, 1, none⟩ = some b := by
  rw [hb.cell (p := ⟨w.heap.size, 1, none⟩) (by simp [World.drew])]
  show (w.alloc (.cells #[a, b] 46)).cell? ⟨w.heap.size, 1, none⟩ = some b
  rw [World.cell?_alloc_new]
  rfl

theorem dec_size (u : Nat) (h : u < 18446744073709551616) : (⟨(Lib.decDigits u).toArray⟩ : ByteArray).size ≤ 20 := by
  show (Lib.decDigits u).toArray.size ≤ 20
  rw [List.size_toArray, Lib.decDigits_length]
  exact Lib.nDigits_le20 u h

theorem text_end {e d : Nat} {E D : ByteArray} (hE : Hid (E = ⟨(Lib.decDigits e).toArray⟩)) (hD : Hid (D = ⟨(Lib.decDigits d).toArray⟩)) :
    Ending.returned (Value.string (E ++ { data := #[46] } ++ D)) = .returned (.string ⟨(text e d).toArray⟩) := by
  rw [hE.out, hD.out]
  congr 2
  apply ByteArray.ext
  simp [text, ByteArray.data_append]
theorem below_two {w w1 w2 : World} {o : Obj} (h1 : Below (w.alloc o).drew.heap.size (w.alloc o).drew w1) (h2 : Below w1.heap.size w1 w2) : Below w.heap.size w w2 := by
  have h0 : Below w.heap.size w (w.alloc o).drew := ((Below.refl _ _).alloc (Nat.le_refl _) _).drew
  have h3 := h0.trans (h1.mono h0.size)
  exact h3.trans (h2.mono h3.size)

set_option maxHeartbeats 1600000 in
theorem string_any (e d : Nat) (he : e < 18446744073709551616) (hd : d < 18446744073709551616) (w : World) (htab : Lib.TabIs Tryd.prog w Tryd.powName .u64 Lib.pow10Tab) :
    Calls Tryd.prog 14 #[.agg #[.int .u64 e, .int .u64 d]] w fun r w' => r = .returned (.string ⟨(text e d).toArray⟩) ∧ Below w.heap.size w w' := by
  obtain ⟨E, hE, hEs⟩ : ∃ E : ByteArray, Hid (E = ⟨(Lib.decDigits e).toArray⟩) ∧ E.size ≤ 20 := ⟨_, rfl, dec_size e he⟩
  obtain ⟨D, hD, hDs⟩ : ∃ E : ByteArray, Hid (E = ⟨(Lib.decDigits d).toArray⟩) ∧ E.size ≤ 20 := ⟨_, rfl, dec_size d hd⟩
  have ht0 : Lib.TabIs Tryd.prog (w.alloc (.cells #[.int .u64 e, .int .u64 d] 46)).drew Tryd.powName .u64 Lib.pow10Tab := Lib.tabIs_alloc htab _
  go_enter Tryd.func14, Tryd.ntmps14
  go_wp2_with fail
  go_region_with (first
    | (go_at_call_of 17 (Value.int IntKind.u64 (↑e)); refine (fmt_b e E hE he _ ht0).mono ?_; rintro _ w1 ⟨rfl, hb1, ht1⟩; have c1 : w1.cell? ⟨w.heap.size, 1, none⟩ = some (.int .u64 d) := cell_box hb1)
    | (go_at_call_of 17 (Value.int IntKind.u64 (↑d)); refine (fmt_b d D hD hd _ (by assumption)).mono ?_; rintro _ w2 ⟨rfl, hb2, ht2⟩))
  all_goals
    go_wp2
    go_ret
    exact ⟨text_end hE hD, below_two hb1 hb2⟩
end Go.Proofs.Qxb6629309aDoor
