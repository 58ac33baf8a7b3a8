/-
  Seat b6629258a: the walk of FnValidPaddingAnywhere.
-/
import Derived.Test.Qxb6629258aWalks
import Derived.Test.Qxb6629258aPad
import Derived.Laws.BytesArg
import Derived.WalkKit
import Derived.ProofKit
import Derived.WalkSpells
import Derived.Outline
namespace Go.Proofs.Qxb6629258a.Pad
open Go.ChangeShapes Go.WideShapes Go.ChangeAt Go.RowKit
open Plain

theorem info5 : (Try.prog.info? 5).map (fun i => (i.zero, i.size, i.bytes)) = some (some (.int .u8 0), 1, 1) := by kernel_rfl

theorem bytes_ok (s : ByteArray) (i n : Int) (w : World) (h : s.size ≤ 1048576) :
    Calls Try.prog 8 #[.string s, .int .i64 i, .int .i64 n] w fun e w' => e = .returned (.bool true) ∧ w = w' := by
  go_enter Try.func8, Try.ntmps8
  go_wp2
  go_ret
  exact ⟨rfl, rfl⟩
theorem bytes_no (s : ByteArray) (i n : Int) (w : World) (h : ¬ s.size ≤ 1048576) (hs : s.size ≤ maxLen) :
    Calls Try.prog 8 #[.string s, .int .i64 i, .int .i64 n] w fun e w' => e = .returned (.bool false) ∧ w = w' := by
  unfold maxLen at hs
  go_enter Try.func8, Try.ntmps8
  go_wp2
  go_ret
  exact ⟨rfl, rfl⟩

theorem valid_is (s : ByteArray) (b : Bool) (w : World) (hs : s.size ≤ maxLen) (hb : Hid (validB s.data.toList = b)) :
    Calls Try.prog 7 #[.string s] w fun e w' => e = .returned (.bool b) ∧ w = w' := by
  rw [← unhide hb]
  exact (valid_any s w hs).mono fun e w' h => ⟨h.1, h.2.symm⟩

/-- The numbers of a list of bytes. -/
def nums (l : List UInt8) : List Int := l.map fun c => (c.toNat : Int)
def cells (l : List UInt8) : List Value := (nums l).map (Value.int .u8)
theorem cells_snoc (l : List UInt8) (c : UInt8) : cells (l ++ [c]) = cells l ++ [.int .u8 (c.toNat : Int)] := by simp [cells, nums]
theorem cells_length (l : List UInt8) : (cells l).length = l.length := by simp [cells, nums]
theorem strOfNums_nums (l : List UInt8) : strOfNums (nums l) = ⟨l.toArray⟩ := by
  unfold strOfNums nums
  rw [List.map_map]
  have : ((fun n : Int => UInt8.ofNat n.toNat) ∘ fun c : UInt8 => (c.toNat : Int)) = id := by
    funext c; simp
  rw [this, List.map_id]

theorem take_snoc (s : ByteArray) (k : Nat) (h : k < s.size) : s.data.toList.take (k + 1) = s.data.toList.take k ++ [s[k]] := by
  rw [List.take_succ_eq_append_getElem (by simpa using h)]; rfl
theorem one_cell (n : Int) : ∀ u ∈ [Value.int .u8 n], u.oneCell' = true := by
  intro u hu; simp at hu; subst hu; rfl

theorem rep_snoc (l : List UInt8) (j : Nat) : l ++ List.replicate (j + 1) 97 = (l ++ List.replicate j 97) ++ [97] := by
  rw [List.replicate_succ', List.append_assoc]
theorem drop_take_self (l : List UInt8) (k : Nat) : (l.take k).drop k = [] := by
  rw [List.drop_eq_nil_iff, List.length_take]; omega
theorem drop_snoc (s : ByteArray) (k m : Nat) (hk : k ≤ m) (h : m < s.size) : (s.data.toList.take (m + 1)).drop k = (s.data.toList.take m).drop k ++ [s[m]] := by
  rw [take_snoc s m h, List.drop_append_of_le_length]
  simp; omega
theorem conv_own {s : ByteArray} {B k j : Nat} {wr : World}
    (hown : wr.ownsRow B 5 1 (.slice (some ⟨B, 0, none⟩) (s.size + j) (s.size + j)) (s.size + j) (cells (s.data.toList.take k ++ List.replicate j 97 ++ (s.data.toList.take s.size).drop k))) :
    (convert 25 9 (.slice (some ⟨B, 0, none⟩) (s.size + j) (s.size + j))).run Try.prog wr = .ok (.string ⟨(padT s.data.toList k j).toArray⟩) wr := by
  have e : s.data.toList.take s.size = s.data.toList := List.take_of_length_le (by simp)
  rw [e] at hown
  have hl : (nums (padT s.data.toList k j)).length = s.size + j := by
    have := hown.1
    simpa [cells, padT] using this
  have h := run_convert_bytes_arg (P := Try.prog) wr 25 5 Try.underlying25 Try.underlying5 B 0 (s.size + j) (s.size + j) (nums (padT s.data.toList k j)) hl (fun i hi => by
    have hc := hown.cellAt i (by omega)
    rw [Nat.zero_add, hc]
    show (cells (padT s.data.toList k j))[i]? = _
    rw [cells, List.getElem?_map, List.getD, List.getElem?_eq_getElem (by omega)]
    rfl) 9 Try.underlying9
  rw [h, strOfNums_nums]

theorem pad_size (s : ByteArray) (k j : Nat) (hk : k ≤ s.size) (hs : s.size ≤ 1048576) (hn : j ≤ 65536) : (⟨(padT s.data.toList k j).toArray⟩ : ByteArray).size ≤ maxLen := by
  have e : (⟨(padT s.data.toList k j).toArray⟩ : ByteArray).size = (padT s.data.toList k j).length := rfl
  rw [e, padT_length _ _ _ (by rw [len_data]; exact hk), len_data]
  unfold maxLen
  omega

set_option maxHeartbeats 1600000 in
theorem main (s : ByteArray) (i n : Nat) (w : World) (hs : s.size ≤ 1048576) (hn : n ≤ 65536) (hi : i ≤ s.size) :
    Calls Try.prog 4 #[.string s, .int .i64 i, .int .i64 n] w fun e w' => e = .returned (.bool true) ∧ Below w.heap.size w w' := by
  obtain ⟨i0, hi0, hz0, hz1, hz2⟩ := info_parts info5
  go_enter Try.func4, Try.ntmps4
  go_wp2_with (first | (go_at_call 8; refine (bytes_ok _ _ _ _ hs).mono ?_; rintro e w' ⟨rfl, rfl⟩) | (at_make; refine wpList_make_own _ rfl _ _ 25 rfl w.heap.size 5 i0 (.int .u8 0) 1 Try.underlying25 hi0 hz0 hz1 _ _ _ (s.size + n) rfl rfl (by omega) ?b2 ?b3 (Nat.le_refl _) ?_))
  case b2 => rw [hz2]; omega
  case b3 => unfold maxLen; omega
  intro w0 hown0 hgrow0
  go_wp2
  go_loopw [7, 8] (fun buf kk wr => ∃ k : Nat, k ≤ i ∧ kk = .int .i64 k ∧ buf = .slice (some ⟨w.heap.size, 0, none⟩) k (s.size + n) ∧
      wr.ownsRow w.heap.size 5 1 (.slice (some ⟨w.heap.size, 0, none⟩) k (s.size + n)) k (cells (s.data.toList.take k)) ∧ Below w.heap.size w wr)
    (fun _ kk _ => i - (intOf kk).toNat)
  case atStart => exact ⟨0, Nat.zero_le _, rfl, rfl, hown0, (Below.refl _ _).grown hgrow0 (Nat.le_refl _) (fun k h => by cases h)⟩
  case round =>
    obtain ⟨k, hk, rfl, rfl, hown, hnx⟩ := hrel
    by_cases hlt : k < i
    · have hlt' : k < s.size := by omega
      have HS := hide (take_snoc s k hlt')
      go_wp2_with (at_builtin; refine wpList_append_fits _ rfl (.tmp 47) (.tmp 51) 25 rfl w.heap.size 5 i0 1 Try.underlying25 hi0 hz1 w.heap.size k (s.size + n) _ rfl (hown.alloc _) ⟨wr.heap.size, 0, none⟩ 1 1 [.int .u8 ((s[k]'hlt').toNat : Int)] rfl rfl (cell_one_new _ _ _) (one_cell _) (by omega) ?_; intro w1 hown1 hgrow1)
      go_roundw
      case rel => exact ⟨k + 1, by omega, by go_num, rfl, by rw [unhide HS, cells_snoc]; exact hown1, (hnx.alloc hnx.size _).grown hgrow1 (by simp; have := hnx.size; omega) (fun k hk => by cases hk; exact Nat.le_refl _)⟩
      case measure => simp [intOf]; omega
    · obtain rfl : k = i := by omega
      go_wp2
      go_loopw [7, 9] (fun buf kk wr => ∃ j : Nat, j ≤ n ∧ kk = .int .i64 j ∧ buf = .slice (some ⟨w.heap.size, 0, none⟩) (k + j) (s.size + n) ∧
          wr.ownsRow w.heap.size 5 1 (.slice (some ⟨w.heap.size, 0, none⟩) (k + j) (s.size + n)) (k + j) (cells (s.data.toList.take k ++ List.replicate j 97)) ∧ Below w.heap.size w wr)
        (fun _ kk _ => n - (intOf kk).toNat)
      case atStart => exact ⟨0, Nat.zero_le _, rfl, rfl, by simpa using hown, hnx⟩
      case round =>
        clear hown hnx
        obtain ⟨j, hj, rfl, rfl, hown, hnx⟩ := hrel
        by_cases hjn : j < n
        · have HS := hide (rep_snoc (s.data.toList.take k) j)
          go_wp2_with (at_builtin; refine wpList_append_fits _ rfl (.tmp 58) (.tmp 59) 25 rfl w.heap.size 5 i0 1 Try.underlying25 hi0 hz1 w.heap.size (k + j) (s.size + n) _ rfl (hown.alloc _) ⟨wr.heap.size, 0, none⟩ 1 1 [.int .u8 97] rfl rfl (cell_one_new _ _ _) (one_cell _) (by omega) ?_; intro w1 hown1 hgrow1)
          go_roundw
          case rel => exact ⟨j + 1, by omega, by go_num, rfl, by rw [unhide HS, cells_snoc]; exact hown1, (hnx.alloc hnx.size _).grown hgrow1 (by simp; have := hnx.size; omega) (fun k hk => by cases hk; exact Nat.le_refl _)⟩
          case measure => simp [intOf]; omega
        · obtain rfl : j = n := by omega
          go_wp2
          go_loopw [7, 10] (fun buf kk wr => ∃ m : Nat, k ≤ m ∧ m ≤ s.size ∧ kk = .int .i64 m ∧ buf = .slice (some ⟨w.heap.size, 0, none⟩) (m + j) (s.size + j) ∧
              wr.ownsRow w.heap.size 5 1 (.slice (some ⟨w.heap.size, 0, none⟩) (m + j) (s.size + j)) (m + j) (cells (s.data.toList.take k ++ List.replicate j 97 ++ (s.data.toList.take m).drop k)) ∧ Below w.heap.size w wr)
            (fun _ kk _ => s.size - (intOf kk).toNat)
          case atStart => exact ⟨k, Nat.le_refl _, by omega, rfl, rfl, by rw [drop_take_self, List.append_nil]; exact hown, hnx⟩
          case round =>
            clear hown hnx
            obtain ⟨m, hm1, hm2, rfl, rfl, hown, hnx⟩ := hrel
            by_cases hms : m < s.size
            · have HS := hide (drop_snoc s k m hm1 hms)
              go_wp2_with (at_builtin; refine wpList_append_fits _ rfl (.tmp 68) (.tmp 72) 25 rfl w.heap.size 5 i0 1 Try.underlying25 hi0 hz1 w.heap.size (m + j) (s.size + j) _ rfl (hown.alloc _) ⟨wr.heap.size, 0, none⟩ 1 1 [.int .u8 ((s[m]'hms).toNat : Int)] rfl rfl (cell_one_new _ _ _) (one_cell _) (by omega) ?_; intro w1 hown1 hgrow1)
              go_roundw
              case rel => exact ⟨m + 1, by omega, by omega, by go_num, by rw [Nat.add_right_comm], by rw [unhide HS, ← List.append_assoc, cells_snoc, Nat.add_right_comm]; exact hown1, (hnx.alloc hnx.size _).grown hgrow1 (by simp; have := hnx.size; omega) (fun k hk => by cases hk; exact Nat.le_refl _)⟩
              case measure => simp [intOf]; omega
            · obtain rfl : m = s.size := by omega
              have hconv := conv_own hown
              have hTd : Hid ((⟨(padT s.data.toList k j).toArray⟩ : ByteArray).data.toList = padT s.data.toList k j) := hide rfl
              have hTz : (⟨(padT s.data.toList k j).toArray⟩ : ByteArray).size ≤ maxLen := pad_size s k j hi hs hn
              generalize (⟨(padT s.data.toList k j).toArray⟩ : ByteArray) = T at hconv hTd hTz
              clear hown hown0 hgrow0
              have hlen : s.data.toList.length = s.size := len_data s
              have HL := hide hlen
              clear hlen
              by_cases hz : s.size < 1
              · have he : s.toList.isEmpty = true := by rw [isEmpty_size]; exact decide_eq_true (by omega)
                rcases (show j < 1 ∨ 128 < j ∨ (1 ≤ j ∧ j ≤ 128) from by omega) with ho | ho | ⟨ho, ho'⟩
                · have hv : Hid (validB T.data.toList = false) := hide (by rw [unhide hTd]; exact pad_out _ _ _ (by rw [unhide HL]; exact hi) (by rw [unhide HL]; omega))
                  have d1 : decide ((1 : Int) ≤ (s.size : Int) + (j : Int)) = false := decide_eq_false (by omega)
                  go_wp2_with (go_at_call 7; refine (valid_is T false _ hTz hv).mono ?_; rintro e w' ⟨rfl, rfl⟩)
                  go_ret
                  exact ⟨rfl, hnx⟩
                · have hv : Hid (validB T.data.toList = false) := hide (by rw [unhide hTd]; exact pad_out _ _ _ (by rw [unhide HL]; exact hi) (by rw [unhide HL]; omega))
                  have d1 : decide ((1 : Int) ≤ (s.size : Int) + (j : Int)) = true := decide_eq_true (by omega)
                  have d2 : decide ((s.size : Int) + (j : Int) ≤ 128) = false := decide_eq_false (by omega)
                  go_wp2_with (go_at_call 7; refine (valid_is T false _ hTz hv).mono ?_; rintro e w' ⟨rfl, rfl⟩)
                  go_ret
                  exact ⟨rfl, hnx⟩
                · have hv : Hid (validB T.data.toList = true) := hide (by
                    rw [unhide hTd, pad_in _ _ _ (by rw [unhide HL]; exact hi) (by rw [unhide HL]; omega) (by rw [unhide HL]; omega)]
                    rw [List.length_eq_zero_iff.1 (show s.data.toList.length = 0 by rw [unhide HL]; omega)]; rfl)
                  have d1 : decide ((1 : Int) ≤ (s.size : Int) + (j : Int)) = true := decide_eq_true (by omega)
                  have d2 : decide ((s.size : Int) + (j : Int) ≤ 128) = true := decide_eq_true (by omega)
                  go_wp2_with (go_at_call 7; refine (valid_is T true _ hTz hv).mono ?_; rintro e w' ⟨rfl, rfl⟩)
                  go_ret
                  exact ⟨rfl, hnx⟩
              · have he : s.toList.isEmpty = false := by rw [isEmpty_size]; exact decide_eq_false (by omega)
                have d1 : decide ((1 : Int) ≤ (s.size : Int) + (j : Int)) = true := decide_eq_true (by omega)
                have hsm : s.size ≤ maxLen := by unfold maxLen; omega
                obtain ⟨bs, hbs⟩ : ∃ b, Hid (validB s.data.toList = b) := ⟨_, hide rfl⟩
                by_cases ho : s.size + j ≤ 128
                · have d2 : decide ((s.size : Int) + (j : Int) ≤ 128) = true := decide_eq_true (by omega)
                  have hv : Hid (validB T.data.toList = bs) := hide (by
                    rw [unhide hTd, pad_in _ _ _ (by rw [unhide HL]; exact hi) (by rw [unhide HL]; omega) (by rw [unhide HL]; omega), ← unhide hbs]
                    exact (validB_in _ (by rw [unhide HL]; omega) (by rw [unhide HL]; omega)).symm)
                  cases bs
                  all_goals
                    go_wp2_with fail
                    refine (valid_is s _ _ hsm hbs).mono ?_
                    rintro e w' ⟨rfl, rfl⟩
                    go_wp2_with fail
                    refine (valid_is T _ _ hTz hv).mono ?_
                    rintro e w' ⟨rfl, rfl⟩
                    go_wp2
                    go_ret
                    exact ⟨rfl, hnx⟩
                · have d2 : decide ((s.size : Int) + (j : Int) ≤ 128) = false := decide_eq_false (by omega)
                  have hv : Hid (validB T.data.toList = false) := hide (by rw [unhide hTd]; exact pad_out _ _ _ (by rw [unhide HL]; exact hi) (by rw [unhide HL]; omega))
                  cases bs
                  all_goals
                    go_wp2_with fail
                    refine (valid_is s _ _ hsm hbs).mono ?_
                    rintro e w' ⟨rfl, rfl⟩
                    go_wp2_with fail
                    refine (valid_is T _ _ hTz hv).mono ?_
                    rintro e w' ⟨rfl, rfl⟩
                    go_wp2
                    go_ret
                    exact ⟨rfl, hnx⟩

set_option maxHeartbeats 400000 in
theorem walk (a0 : ByteArray) (a1 : Int) (a2 : Int) (w0 : a0.size ≤ maxLen) (w1 : (Lit.int .i64 a1).wf = true) (w2 : (Lit.int .i64 a2).wf = true) (w : World) :
    Calls Try.prog 4 #[.string a0, .int .i64 a1, .int .i64 a2] w fun e w' => e = .returned (.bool true) ∧ Below w.heap.size w w' := by
  by_cases hb : a0.size ≤ 1048576
  · by_cases hn0 : a2 < 0
    · go_enter Try.func4, Try.ntmps4
      go_wp2_with (go_at_call 8; refine (bytes_ok _ _ _ _ hb).mono ?_; rintro e w' ⟨rfl, rfl⟩)
      go_ret
      exact ⟨rfl, Below.refl _ _⟩
    · by_cases hn1 : 65536 < a2
      · have d0 : decide (a2 < 0) = false := decide_eq_false hn0
        go_enter Try.func4, Try.ntmps4
        go_wp2_with (go_at_call 8; refine (bytes_ok _ _ _ _ hb).mono ?_; rintro e w' ⟨rfl, rfl⟩)
        go_ret
        exact ⟨rfl, Below.refl _ _⟩
      · by_cases hi0 : a1 < 0
        · have d0 : decide (a2 < 0) = false := decide_eq_false hn0
          have d1 : decide (65536 < a2) = false := decide_eq_false hn1
          go_enter Try.func4, Try.ntmps4
          go_wp2_with (go_at_call 8; refine (bytes_ok _ _ _ _ hb).mono ?_; rintro e w' ⟨rfl, rfl⟩)
          go_ret
          exact ⟨rfl, Below.refl _ _⟩
        · by_cases hi1 : (a0.size : Int) < a1
          · have d0 : decide (a2 < 0) = false := decide_eq_false hn0
            have d1 : decide (65536 < a2) = false := decide_eq_false hn1
            have d2 : decide (a1 < 0) = false := decide_eq_false hi0
            go_enter Try.func4, Try.ntmps4
            go_wp2_with (go_at_call 8; refine (bytes_ok _ _ _ _ hb).mono ?_; rintro e w' ⟨rfl, rfl⟩)
            go_ret
            exact ⟨rfl, Below.refl _ _⟩
          · obtain ⟨i, rfl⟩ := Int.eq_ofNat_of_zero_le (show 0 ≤ a1 by omega)
            obtain ⟨n, rfl⟩ := Int.eq_ofNat_of_zero_le (show 0 ≤ a2 by omega)
            exact main a0 i n w hb (by omega) (by omega)
  · go_enter Try.func4, Try.ntmps4
    go_wp2_with (go_at_call 8; refine (bytes_no _ _ _ _ hb w0).mono ?_; rintro e w' ⟨rfl, rfl⟩)
    go_ret
    exact ⟨rfl, Below.refl _ _⟩
end Go.Proofs.Qxb6629258a.Pad
