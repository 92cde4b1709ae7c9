/-
  FnIsDigitsCountByOnes: the walk.
-/
import Derived.Test.Qxb6603372aDigits
import Derived.Lib.Strings
namespace Go.Proofs.Qxb6603372a
open Go.RowKit

theorem bytes10 (s : ByteArray) (w : World) (hs : s.size ≤ 1048576) : Calls Try.prog 10 #[.string s] w fun e w' => e = .returned (.bool true) ∧ w' = w := by
  go_enter Try.func10, Try.ntmps10
  go_wp2
  go_ret
  exact ⟨rfl, rfl⟩

theorem bytes10_no (s : ByteArray) (w : World) (h : 1048576 < s.size) (hs : s.size ≤ 9223372036854775807) : Calls Try.prog 10 #[.string s] w fun e w' => e = .returned (.bool false) ∧ w' = w := by
  go_enter Try.func10, Try.ntmps10
  go_wp2
  go_ret
  exact ⟨rfl, rfl⟩

/-- The law, plain. -/
theorem ones_law (l : List UInt8) : isD l = (!l.isEmpty && (cnt l == l.length)) := by
  rw [cnt_all]
  rfl

theorem one_byte (s : ByteArray) (k : Nat) (h : k < s.size) : (s.extract k (k + 1)).size = 1 ∧ isD (s.extract k (k + 1)).data.toList = digB s[k] := by
  have e : (s.extract k (k + 1)).data.toList = [s[k]] := by
    rw [Lib.extract_data, show k + 1 - k = 1 by omega, List.drop_eq_getElem_cons (by simpa using h)]
    simp
    rfl
  constructor
  · show (s.extract k (k + 1)).data.size = 1
    rw [← Array.length_toList, e]
    rfl
  · rw [e]
    simp [isD]

set_option maxHeartbeats 400000 in
theorem byones5 (s : ByteArray) (hs : s.size ≤ maxLen) (w : World) : Calls Try.prog 5 #[.string s] w fun e w' => e = .returned (.bool true) ∧ w' = w := by
  unfold maxLen at hs
  by_cases hbig : 1048576 < s.size
  · have H6 := hid (bytes10_no s w hbig (by omega))
    go_enter Try.func5, Try.ntmps5
    go_wp2_with (go_at_call 10; refine H6.out.mono ?_; rintro e w' ⟨rfl, hw⟩; subst hw)
    go_ret
    exact ⟨rfl, rfl⟩
  · have H6 := hid (bytes10 s w (by omega))
    have H8 := hid (zdig8 s w (by omega))
    have H7 := hid (fun c => dig7 c w)
    have H11' := hid (fun b => ones13 b w)
    have H8' := hid (fun k (h : k < s.size) => by
      have := zdig8 (s.extract k (k + 1)) w (by have := (one_byte s k h).1; omega)
      rw [(one_byte s k h).2] at this
      exact this)
    go_enter Try.func5, Try.ntmps5
    go_wp2_with (go_at_call 10; refine H6.out.mono ?_; rintro e w' ⟨rfl, hw⟩; subst hw)
    go_loop [3, 4, 5] (fun n m i => ∃ (k c : Nat), k ≤ s.size ∧ i = .int .i64 k ∧ n = .int .i64 c ∧ m = .int .i64 c ∧ c ≤ k ∧ Hid (c = cnt (s.data.toList.take k))) (fun _ _ i => s.size - (intOf i).toNat)
    case atStart => exact ⟨0, 0, Nat.zero_le _, rfl, rfl, rfl, Nat.le_refl _, rfl⟩
    case round =>
      obtain ⟨k, c, hk, rfl, rfl, rfl, hc, HC⟩ := hrel
      by_cases hlt : k < s.size
      · have HS : Hid (cnt (s.data.toList.take (k + 1)) = c + (if digB s[k] then 1 else 0)) := by
          refine hid ?_
          rw [take_snoc s k hlt, cnt_snoc, HC.out]
        have H7k := hid (H7.out s[k])
        have H8k := hid (H8'.out k hlt)
        generalize digB s[k] = b at *
        have H11 := hid (H11'.out b)
        cases b with
        | true =>
          go_wp2_with (first | (go_at_call 8; refine H8k.out.mono ?_; rintro e w' ⟨rfl, hw⟩; subst hw) | (go_at_call 11; refine H11.out.mono ?_; rintro e w' ⟨rfl, hw⟩; subst hw) | (go_at_call 7; refine H7k.out.mono ?_; rintro e w' ⟨rfl, hw⟩; subst hw))
          go_round
          case rel => exact ⟨k + 1, c + 1, by omega, by go_num, by go_num, by go_num, by omega, HS.out.symm⟩
          case measure => simp [intOf]; omega
        | false =>
          go_wp2_with (first | (go_at_call 8; refine H8k.out.mono ?_; rintro e w' ⟨rfl, hw⟩; subst hw) | (go_at_call 11; refine H11.out.mono ?_; rintro e w' ⟨rfl, hw⟩; subst hw) | (go_at_call 7; refine H7k.out.mono ?_; rintro e w' ⟨rfl, hw⟩; subst hw))
          go_round
          case rel => exact ⟨k + 1, c, by omega, by go_num, by go_num, rfl, by omega, HS.out.symm⟩
          case measure => simp [intOf]; omega
      · have HE : Hid (isD s.data.toList = (!s.toList.isEmpty && ((c : Int) == (s.size : Int)))) := by
          refine hid ?_
          rw [ones_law, ByteArray.toList_eq]
          have e1 : s.data.toList.length = s.size := by simp
          have e2 : cnt s.data.toList = c := by rw [HC.out, List.take_of_length_le (by simp; omega)]
          have e4 : (c == s.size) = ((c : Int) == (s.size : Int)) := by rw [Bool.eq_iff_iff]; simp only [beq_iff_eq]; omega
          rw [e1, e2, e4]
        rw [HE.out] at H8
        generalize hcb : ((c : Int) == (s.size : Int)) = cb at *
        generalize hem : s.toList.isEmpty = em at *
        cases em with
        | true =>
          go_wp2_with (go_at_call 8; refine H8.out.mono ?_; rintro e w' ⟨rfl, hw⟩; subst hw)
          go_ret
          exact ⟨rfl, rfl⟩
        | false =>
          go_wp2_with (go_at_call 8; refine H8.out.mono ?_; rintro e w' ⟨rfl, hw⟩; subst hw)
          go_ret
          exact ⟨rfl, rfl⟩

end Go.Proofs.Qxb6603372a
