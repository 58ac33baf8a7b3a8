/-
  Seat b6629309aD: strconv.FormatUint at base 10: the walk, after the shelf's own texts of FormatInt and AppendUint; the inner functions by the shelf's contracts laid at this dump.
-/
import Derived.Test.Qxb6629309aDoorShelf
import Derived.Lib.Walk
import Derived.Lib.ItoaMem
import Derived.Lib.AppendIntMem
import Derived.Lib.ItoaLen
import Derived.Lib.BufferKept
import Derived.WalkKit
import Derived.BigCall
import Derived.BigGuard
import Derived.Outline
namespace Go.Proofs.Qxb6629309aDoor
open Go.RowKit Go.Sort Go.Lib

set_option maxHeartbeats 6400000 in
set_option maxRecDepth 100000 in
theorem ifmt_any (u : Nat) (hu64 : u < 18446744073709551616) (w : World) (htab : Lib.TabIs Tryd.prog w Tryd.powName .u64 Lib.pow10Tab) :
    Calls Tryd.prog 26 #[.int .u64 u, .int .i64 10] w fun e w' => e = .returned (.string ⟨(Lib.decDigits u).toArray⟩) ∧ ∃ k os, w' = grow (w.drewN k) os := by
  by_cases hs : u < 100
  · go_enter Tryd.func26, Tryd.ntmps26
    go_wp2_with (go_at_call 34; refine (Tryd.internal_strconv_small u hs _).mono ?_; rintro e w' ⟨rfl, rfl⟩)
    go_ret
    exact ⟨rfl, 0, #[], by simp [World.drewN_zero]⟩
  · have hu1 : 1 ≤ u := by omega
    have hnd20 : Lib.nDigits u ≤ 20 := Lib.nDigits_le20 u hu64
    have hal : Tryd.prog.arrayLen 65 = 24 := by simp [Program.arrayLen, Tryd.underlying65]
    have hsl : ∀ W, (Instr.sliceAt 65 (.pointer (some ⟨w.heap.size, 0, none⟩)) none (some (.int .i64 (Lib.nDigits u : Int))) none).run Tryd.prog W = .ok (.slice (some ⟨w.heap.size, 0, none⟩) (Lib.nDigits u) 24) W := fun W => by
      rw [run_sliceAt_array_h W 65 ⟨w.heap.size, 0, none⟩ (by simp [Program.arrayLen, Program.elem, Tryd.underlying65]) .i64 (Lib.nDigits u : Int) (by omega) (by rw [hal]; omega)]
      go_simp
    have hH0 := Lib.holds_zero0 w 65 (Lib.nDigits u) (by omega)
    have hfmt := Tryd.internal_strconv_formatBase10 w.heap.size 0 24 u (Array.replicate (Lib.nDigits u) 0) (w.alloc (.cells Lib.zeros24 65)) hH0 (by rw [Array.size_replicate]; exact Lib.lt_pow_nDigits u) hu64 (by rw [Array.size_replicate]; omega)
    rw [Array.size_replicate] at hfmt
    have HH0 := Lib.hid hH0
    have iu : (100 : Int) ≤ (u : Int) := by omega
    clear hH0 hal
    go_enter Tryd.func26, Tryd.ntmps26
    go_wp2_with (go_at_call 35; refine (Tryd.internal_strconv_numDigits u hu1 hu64 _ (Lib.tabIs_alloc htab _)).mono ?_; rintro e w' ⟨rfl, rfl⟩)
    refine hfmt.mono ?_
    rintro e w' ⟨rfl, k, v', dk, rfl, hF⟩
    have hcv : (convert 67 9 (.slice (some ⟨w.heap.size, 0, none⟩) (Lib.nDigits u) 24)).run Tryd.prog ((putRow (fun (b : UInt8) => Value.int .u8 (b.toNat : Int)) (w.alloc (.cells Lib.zeros24 65)) w.heap.size 0 dk).drewN k) = .ok (.string ⟨(Lib.decDigits u).toArray⟩) ((putRow (fun (b : UInt8) => Value.int .u8 (b.toNat : Int)) (w.alloc (.cells Lib.zeros24 65)) w.heap.size 0 dk).drewN k) := by
      have h := run_convert_bytes_back (P := Tryd.prog) ((putRow (fun (b : UInt8) => Value.int .u8 (b.toNat : Int)) (w.alloc (.cells Lib.zeros24 65)) w.heap.size 0 dk).drewN k) 67 9 5 ⟨w.heap.size, 0, none⟩ 24 (Lib.decDigits u) Tryd.underlying67 Tryd.underlying5 Tryd.underlying9 (fun j hj => by
        rw [Lib.row_is_numeral hF j hj, Lib.add_plain, World.cell?_drewN]
        exact cell?_putRow (fun (b : UInt8) => Value.int .u8 (b.toNat : Int)) _ w.heap.size 0 _ dk HH0.out (by rw [hF.size, Array.size_replicate]) j (by rw [hF.size]; rw [Lib.decDigits_length] at hj; exact hj))
      rw [Lib.decDigits_length] at h
      exact h
    obtain ⟨os, eo⟩ := Lib.fin_at w (.cells Lib.zeros24 65) dk k 0
    have EO2 : Hid (∃ k' os', (putRow (fun (b : UInt8) => Value.int .u8 (b.toNat : Int)) (w.alloc (.cells Lib.zeros24 65)) w.heap.size 0 dk).drewN k = grow (w.drewN k') os') := ⟨k, os, eo⟩
    clear eo
    generalize (putRow (fun (b : UInt8) => Value.int .u8 (b.toNat : Int)) (w.alloc (.cells Lib.zeros24 65)) w.heap.size 0 dk).drewN k = W2 at hcv EO2 ⊢
    clear HH0 hfmt hF
    go_wp2
    go_ret
    exact ⟨rfl, EO2.out⟩

set_option maxRecDepth 100000 in
/-- strconv.FormatUint(u, 10): u's decimal numeral; the world behind the call: the world before it, new blocks, draws. -/
theorem fmt_any (u : Nat) (hu64 : u < 18446744073709551616) (w : World) (htab : Lib.TabIs Tryd.prog w Tryd.powName .u64 Lib.pow10Tab) :
    Calls Tryd.prog 17 #[.int .u64 u, .int .i64 10] w fun e w' => e = .returned (.string ⟨(Lib.decDigits u).toArray⟩) ∧ ∃ k os, w' = grow (w.drewN k) os := by
  go_enter Tryd.func17, Tryd.ntmps17
  go_wp2_with (go_at_call 26; refine (ifmt_any u hu64 _ htab).mono ?_; rintro e w' ⟨rfl, k, os, rfl⟩)
  go_ret
  exact ⟨rfl, k, os, rfl⟩
#print axioms fmt_any
end Go.Proofs.Qxb6629309aDoor
