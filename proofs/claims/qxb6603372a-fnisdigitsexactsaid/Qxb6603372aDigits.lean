/-
  Digits: the plain functions; isDecimalDigitByte, isDigits and their shims, walked.
-/
import Derived.Test.Qxb6603372aRows
import Derived.WalkKit
import Derived.WalkSpells
import Derived.WalkLawsBesides
namespace Go.Proofs.Qxb6603372a
open Go.RowKit

theorem hid {p : Prop} (h : p) : Hid p := h

/-- One of the ten digits. -/
def digB (c : UInt8) : Bool := decide (48 ≤ c.toNat ∧ c.toNat ≤ 57)
/-- How many digits. -/
def cnt (l : List UInt8) : Nat := (l.filter digB).length
/-- One or more digits and nothing else. -/
def isD (l : List UInt8) : Bool := !l.isEmpty && l.all digB

theorem cnt_le (l : List UInt8) : cnt l ≤ l.length := List.length_filter_le _ _
theorem cnt_snoc (l : List UInt8) (c : UInt8) : cnt (l ++ [c]) = cnt l + (if digB c then 1 else 0) := by
  unfold cnt
  rw [List.filter_append]
  cases h : digB c <;> simp [h]
theorem take_snoc (s : ByteArray) (k : Nat) (h : k < s.size) : s.data.toList.take (k + 1) = s.data.toList.take k ++ [s[k]] := by
  rw [List.take_succ_eq_append_getElem (by simpa using h)]; rfl

theorem cnt_all (l : List UInt8) : (cnt l == l.length) = l.all digB := by
  induction l with
  | nil => rfl
  | cons c l ih =>
    have hle := cnt_le l
    cases h : digB c with
    | true =>
      have e : cnt (c :: l) = cnt l + 1 := by simp [cnt, h]
      rw [e, List.length_cons, List.all_cons, h, Bool.true_and, ← ih]
      rw [Bool.eq_iff_iff]
      simp
    | false =>
      have e : cnt (c :: l) = cnt l := by simp [cnt, h]
      rw [e, List.length_cons, List.all_cons, h, Bool.false_and]
      simp
      omega

theorem ret_bool {a b : Bool} (h : a = b) : Ending.returned (.bool a) = .returned (.bool b) := by rw [h]

theorem dig7_yes (n : Int) (w : World) (h1 : 48 ≤ n) (h2 : n ≤ 57) : Calls Try.prog 7 #[.int .u8 n] w fun e w' => e = .returned (.bool true) ∧ w' = w := by
  go_enter Try.func7, Try.ntmps7
  go_wp2
  all_goals (go_ret; exact ⟨rfl, rfl⟩)

theorem dig7_no (n : Int) (w : World) (h : n < 48 ∨ 57 < n) : Calls Try.prog 7 #[.int .u8 n] w fun e w' => e = .returned (.bool false) ∧ w' = w := by
  rcases h with h | h
  · go_enter Try.func7, Try.ntmps7
    go_wp2
    go_ret
    exact ⟨rfl, rfl⟩
  · go_enter Try.func7, Try.ntmps7
    go_wp2
    go_ret
    exact ⟨rfl, rfl⟩

theorem dig7 (c : UInt8) (w : World) : Calls Try.prog 7 #[.int .u8 (c.toNat : Int)] w fun e w' => e = .returned (.bool (digB c)) ∧ w' = w := by
  by_cases h : 48 ≤ c.toNat ∧ c.toNat ≤ 57
  · have e : digB c = true := by unfold digB; exact decide_eq_true h
    rw [e]
    exact dig7_yes _ w (by omega) (by omega)
  · have e : digB c = false := by unfold digB; exact decide_eq_false h
    rw [e]
    exact dig7_no _ w (by omega)

set_option maxHeartbeats 400000 in
theorem isDigits12 (s : ByteArray) (w : World) (hs : s.size ≤ 1048576) :
    Calls Try.prog 12 #[.string s] w fun e w' => e = .returned (.bool (isD s.data.toList)) ∧ w' = w := by
  generalize hb : isD s.data.toList = b
  have HB := hid hb
  clear hb
  go_enter Try.func12, Try.ntmps12
  go_wp2
  go_loop [6] (fun i => ∃ k : Nat, k ≤ s.size ∧ i = .int .i64 k ∧ Hid ((s.data.toList.take k).all digB = true)) (fun i => s.size - (intOf i).toNat)
  case atStart => exact ⟨0, Nat.zero_le _, rfl, rfl⟩
  case round =>
    obtain ⟨k, hk, rfl, HK⟩ := hrel
    by_cases hlt : k < s.size
    · by_cases hd : 48 ≤ s[k].toNat ∧ s[k].toNat ≤ 57
      · obtain ⟨d1, d2⟩ := hd
        have HD : Hid (digB s[k] = true) := decide_eq_true ⟨d1, d2⟩
        have c1 : (48 : Int) ≤ (s[k].toNat : Int) := by omega
        have c2 : (s[k].toNat : Int) ≤ 57 := by omega
        go_wp2
        go_round
        case rel => exact ⟨k + 1, by omega, by go_num, by refine hid ?_; rw [take_snoc s k hlt, List.all_append, HK.out]; simp [HD.out]⟩
        case measure => simp [intOf]; omega
      · have HD : Hid (isD s.data.toList = false) := by
          have hd' : digB s[k] = false := decide_eq_false hd
          unfold isD
          refine hid ?_
          rw [Bool.and_eq_false_iff]
          right
          rw [← List.take_append_drop (k + 1) s.data.toList, take_snoc s k hlt]
          simp [List.all_append, hd']
        by_cases c1 : (s[k].toNat : Int) < 48
        · go_wp2
          go_ret
          exact ⟨ret_bool (by rw [← HB.out, HD.out]), rfl⟩
        · have c2 : (57 : Int) < (s[k].toNat : Int) := by omega
          go_wp2
          go_ret
          exact ⟨ret_bool (by rw [← HB.out, HD.out]), rfl⟩
    · have HE : Hid (isD s.data.toList = !s.data.toList.isEmpty) := by
        refine hid ?_
        have := HK.out
        rw [List.take_of_length_le (by simp; omega)] at this
        unfold isD
        rw [this]
        simp
      go_wp2
      go_ret
      refine ⟨ret_bool ?_, rfl⟩
      rw [← HB.out, HE.out, ByteArray.toList_eq]

theorem zdig8 (s : ByteArray) (w : World) (hs : s.size ≤ 1048576) : Calls Try.prog 8 #[.string s] w fun e w' => e = .returned (.bool (isD s.data.toList)) ∧ w' = w := by
  have H := isDigits12 s w hs
  generalize isD s.data.toList = b at *
  have H' := hid H
  clear H
  go_enter Try.func8, Try.ntmps8
  go_wp2_with fail
  refine H'.out.mono ?_
  rintro e w' ⟨rfl, hw⟩
  subst hw
  go_wp2
  go_ret
  exact ⟨rfl, rfl⟩

theorem ones13 (b : Bool) (w : World) : Calls Try.prog 11 #[.bool b] w fun e w' => e = .returned (.int .i64 (if b then 1 else 0)) ∧ w' = w := by
  cases b with
  | true =>
    go_enter Try.func11, Try.ntmps11
    go_wp2
    go_ret
    exact ⟨rfl, rfl⟩
  | false =>
    go_enter Try.func11, Try.ntmps11
    go_wp2
    go_ret
    exact ⟨rfl, rfl⟩

end Go.Proofs.Qxb6603372a
