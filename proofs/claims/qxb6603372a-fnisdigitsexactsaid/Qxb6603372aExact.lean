/-
  FnIsDigitsExact: the walk.
-/
import Derived.Test.Qxb6603372aDigits
namespace Go.Proofs.Qxb6603372a
open Go.RowKit

theorem bytes6 (s : ByteArray) (w : World) (hs : s.size ≤ 1048576) : Calls Try.prog 6 #[.string s] w fun e w' => e = .returned (.bool true) ∧ w' = w := by
  go_enter Try.func6, Try.ntmps6
  go_wp2
  go_ret
  exact ⟨rfl, rfl⟩

theorem bytes6_no (s : ByteArray) (w : World) (h : 1048576 < s.size) (hs : s.size ≤ 9223372036854775807) : Calls Try.prog 6 #[.string s] w fun e w' => e = .returned (.bool false) ∧ w' = w := by
  go_enter Try.func6, Try.ntmps6
  go_wp2
  go_ret
  exact ⟨rfl, rfl⟩

/-- The law, plain. -/
theorem exact_law (l : List UInt8) : isD l = (decide (0 < l.length) && (cnt l == l.length)) := by
  rw [cnt_all]
  unfold isD
  cases l <;> simp

set_option maxHeartbeats 400000 in
theorem exact3 (s : ByteArray) (hs : s.size ≤ maxLen) (w : World) : Calls Try.prog 3 #[.string s] w fun e w' => e = .returned (.bool true) ∧ w' = w := by
  unfold maxLen at hs
  by_cases hbig : 1048576 < s.size
  · have H6 := hid (bytes6_no s w hbig (by omega))
    go_enter Try.func3, Try.ntmps3
    go_wp2_with (go_at_call 6; refine H6.out.mono ?_; rintro e w' ⟨rfl, hw⟩; subst hw)
    go_ret
    exact ⟨rfl, rfl⟩
  · have H6 := hid (bytes6 s w (by omega))
    have H8 := hid (zdig8 s w (by omega))
    have H7 := hid (fun c => dig7 c w)
    go_enter Try.func3, Try.ntmps3
    go_wp2_with (go_at_call 6; refine H6.out.mono ?_; rintro e w' ⟨rfl, hw⟩; subst hw)
    go_loop [3, 4] (fun n i => ∃ (k c : Nat), k ≤ s.size ∧ i = .int .i64 k ∧ n = .int .i64 c ∧ c ≤ k ∧ Hid (c = cnt (s.data.toList.take k))) (fun _ i => s.size - (intOf i).toNat)
    case atStart => exact ⟨0, 0, Nat.zero_le _, rfl, rfl, Nat.le_refl _, rfl⟩
    case round =>
      obtain ⟨k, c, hk, rfl, rfl, hc, HC⟩ := hrel
      by_cases hlt : k < s.size
      · have HS : Hid (cnt (s.data.toList.take (k + 1)) = c + (if digB s[k] then 1 else 0)) := by
          refine hid ?_
          rw [take_snoc s k hlt, cnt_snoc, HC.out]
        have H7k := hid (H7.out s[k])
        generalize digB s[k] = b at *
        cases b with
        | true =>
          go_wp2_with (go_at_call 7; refine H7k.out.mono ?_; rintro e w' ⟨rfl, hw⟩; subst hw)
          go_round
          case rel => exact ⟨k + 1, c + 1, by omega, by go_num, by go_num, by omega, HS.out.symm⟩
          case measure => simp [intOf]; omega
        | false =>
          go_wp2_with (go_at_call 7; refine H7k.out.mono ?_; rintro e w' ⟨rfl, hw⟩; subst hw)
          go_round
          case rel => exact ⟨k + 1, c, by omega, by go_num, rfl, by omega, HS.out.symm⟩
          case measure => simp [intOf]; omega
      · have HE : Hid (isD s.data.toList = (decide ((0 : Int) < (s.size : Int)) && ((c : Int) == (s.size : Int)))) := by
          refine hid ?_
          rw [exact_law]
          have e1 : s.data.toList.length = s.size := by simp
          have e2 : cnt s.data.toList = c := by rw [HC.out, List.take_of_length_le (by simp; omega)]
          rw [e1, e2]
          have e3 : decide (0 < s.size) = decide ((0 : Int) < (s.size : Int)) := by rw [Bool.eq_iff_iff]; simp only [decide_eq_true_eq]; omega
          have e4 : (c == s.size) = ((c : Int) == (s.size : Int)) := by rw [Bool.eq_iff_iff]; simp only [beq_iff_eq]; omega
          rw [e3, e4]
        rw [HE.out] at H8
        by_cases h0 : 0 < s.size
        · have h0' : (0 : Int) < (s.size : Int) := by omega
          rw [decide_eq_true h0', Bool.true_and] at H8
          generalize hcb : ((c : Int) == (s.size : Int)) = cb at *
          go_wp2_with (go_at_call 8; refine H8.out.mono ?_; rintro e w' ⟨rfl, hw⟩; subst hw)
          go_ret
          exact ⟨rfl, rfl⟩
        · have h0' : ¬ (0 : Int) < (s.size : Int) := by omega
          rw [decide_eq_false h0', Bool.false_and] at H8
          go_wp2_with (go_at_call 8; refine H8.out.mono ?_; rintro e w' ⟨rfl, hw⟩; subst hw)
          go_ret
          exact ⟨rfl, rfl⟩

end Go.Proofs.Qxb6603372a
