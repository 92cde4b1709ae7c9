/-
  Counting bits: the plain laws; zzOnes, zzCount walked.
-/
import Derived.Test.Qxb6603185aSets
namespace Go.Proofs.Qxb6603185a
open Go.RowKit

def popF : Nat → Nat → Nat
  | 0, _ => 0
  | f + 1, x => x % 2 + popF f (x / 2)
/-- How many of the 64 bits are set. -/
def pop (x : Nat) : Nat := popF (64 + 0 * x) x      -- '0 * x': so that it does not unfold where x is a letter
theorem pop_eq (x : Nat) : pop x = popF 64 x := by
  unfold pop
  rw [Nat.zero_mul]
theorem pop_zero : pop 0 = 0 := by rw [pop_eq]; decide

theorem popF_zero (f : Nat) : popF f 0 = 0 := by
  induction f with
  | zero => rfl
  | succ f ih => simp [popF, ih]

theorem popF_le (f x : Nat) : popF f x ≤ f := by
  induction f generalizing x with
  | zero => simp [popF]
  | succ f ih =>
    have := ih (x / 2)
    simp only [popF]
    omega

theorem and_half (a b : Nat) : (a &&& b) / 2 = (a / 2) &&& (b / 2) := by
  apply Nat.eq_of_testBit_eq
  intro i
  rw [Nat.testBit_and, Nat.testBit_div_two, Nat.testBit_div_two, Nat.testBit_div_two, Nat.testBit_and]

theorem or_half (a b : Nat) : (a ||| b) / 2 = (a / 2) ||| (b / 2) := by
  apply Nat.eq_of_testBit_eq
  intro i
  rw [Nat.testBit_or, Nat.testBit_div_two, Nat.testBit_div_two, Nat.testBit_div_two, Nat.testBit_or]

theorem mod_of {x : Nat} {p : Prop} [Decidable p] (h : x % 2 = 1 ↔ p) : x % 2 = if p then 1 else 0 := by
  by_cases hp : p
  · rw [if_pos hp]; exact h.2 hp
  · rw [if_neg hp]
    have : ¬ x % 2 = 1 := fun e => hp (h.1 e)
    omega

theorem and_mod (a b : Nat) : (a &&& b) % 2 = if a % 2 = 1 ∧ b % 2 = 1 then 1 else 0 := by
  have h := Nat.testBit_and a b 0
  simp only [Nat.testBit_zero] at h
  exact mod_of (by rw [Bool.eq_iff_iff] at h; simpa only [decide_eq_true_eq, Bool.and_eq_true] using h)

theorem or_mod (a b : Nat) : (a ||| b) % 2 = if a % 2 = 1 ∨ b % 2 = 1 then 1 else 0 := by
  have h := Nat.testBit_or a b 0
  simp only [Nat.testBit_zero] at h
  exact mod_of (by rw [Bool.eq_iff_iff] at h; simpa only [decide_eq_true_eq, Bool.or_eq_true] using h)

/-- 'x & (x - 1)' strikes one bit. -/
theorem popF_strike (f x : Nat) (h0 : x ≠ 0) (hx : x < 2 ^ f) : popF f (x &&& (x - 1)) + 1 = popF f x := by
  induction f generalizing x with
  | zero => simp at hx; omega
  | succ f ih =>
    simp only [popF, and_half, and_mod]
    rw [Nat.pow_succ] at hx
    by_cases h1 : x % 2 = 1
    · have e1 : ¬ (x % 2 = 1 ∧ (x - 1) % 2 = 1) := by omega
      have e2 : (x - 1) / 2 = x / 2 := by omega
      rw [if_neg e1, e2, Nat.and_self]
      omega
    · have e1 : ¬ (x % 2 = 1 ∧ (x - 1) % 2 = 1) := by omega
      have e2 : (x - 1) / 2 = x / 2 - 1 := by omega
      have := ih (x / 2) (by omega) (by omega)
      rw [if_neg e1, e2]
      omega

/-- A bit that was not set, set. -/
theorem popF_set (f v x : Nat) (hv : v < f) (h : x.testBit v = false) : popF f (x ||| 2 ^ v) = popF f x + 1 := by
  induction f generalizing x v with
  | zero => omega
  | succ f ih =>
    simp only [popF, or_half, or_mod]
    cases v with
    | zero =>
      have h1 : ¬ x % 2 = 1 := by simpa using h
      have e : (2 ^ 0 : Nat) / 2 = 0 := by decide
      rw [e, Nat.or_zero]
      simp
      omega
    | succ v =>
      have e : (2 ^ (v + 1) : Nat) / 2 = 2 ^ v := by rw [Nat.pow_succ]; omega
      have e2 : (2 ^ (v + 1) : Nat) % 2 = 0 := by rw [Nat.pow_succ]; omega
      have := ih v (x / 2) (by omega) (by rw [Nat.testBit_div_two]; exact h)
      rw [e, e2, this]
      by_cases h1 : x % 2 = 1
      · simp [h1]
        omega
      · simp [h1]
        omega

/-- The members of a set, counted. -/
def popAll (low : Nat) (hs : List Nat) : Nat := pop low + (hs.map pop).sum

theorem sum_set (hs : List Nat) (k x : Nat) (hk : k < hs.length) : ((hs.set k x).map pop).sum + pop (hs.getD k 0) = (hs.map pop).sum + pop x := by
  induction hs generalizing k with
  | nil => simp at hk
  | cons y l ih =>
    cases k with
    | zero => simp; omega
    | succ k =>
      have := ih k (by simpa using hk)
      simp at this ⊢
      omega

theorem sum_longer (hs : List Nat) (k : Nat) : ((longer hs k).map pop).sum = (hs.map pop).sum := by
  unfold longer
  rw [List.map_append, List.sum_append, List.map_replicate]
  have : pop 0 = 0 := pop_zero
  rw [this]
  simp

theorem popAll_add (low : Nat) (hs : List Nat) (v : Nat) (h : has low hs v = false) : popAll (lowAdd low v) (highAdd hs v) = popAll low hs + 1 := by
  unfold has at h
  unfold popAll lowAdd highAdd
  by_cases hv : v < 64
  · rw [if_pos hv] at h
    rw [if_pos hv, if_pos hv]
    have := popF_set 64 v low hv h
    simp only [pop_eq]
    omega
  · rw [if_neg hv] at h
    rw [if_neg hv, if_neg hv]
    have hl := longer_length hs ((v - 64) / 64)
    have h1 := sum_set (longer hs ((v - 64) / 64)) ((v - 64) / 64) (hs.getD ((v - 64) / 64) 0 ||| 2 ^ ((v - 64) % 64)) (by rw [hl]; split <;> omega)
    rw [longer_getD, sum_longer] at h1
    have h2 : pop (hs.getD ((v - 64) / 64) 0 ||| 2 ^ ((v - 64) % 64)) = pop (hs.getD ((v - 64) / 64) 0) + 1 := by
      simp only [pop_eq]
      exact popF_set 64 _ _ (Nat.mod_lt _ (by omega)) (by rw [show (v - 64) % 64 = v % 64 by omega]; exact h)
    unfold bitAdd
    omega

/-- What the walk's step needs of 'x & (x - 1)'. -/
theorem strike_all (y : Nat) (h0 : 0 < y) (hy : y < 18446744073709551616) : ∃ z : Nat, z < y ∧ bits .and .u64 (y : Int) ((y : Int) - 1) = (z : Int) ∧ pop z + 1 = pop y := by
  refine ⟨y &&& (y - 1), ?_, ?_, by rw [pop_eq, pop_eq]; exact popF_strike 64 y (by omega) hy⟩
  · have : y &&& (y - 1) ≤ y - 1 := Nat.and_le_right
    omega
  · have e : ((y : Int) - 1) = ((y - 1 : Nat) : Int) := by omega
    rw [e]
    exact u64_and_nat y (y - 1) hy (by omega)

set_option maxHeartbeats 400000 in
theorem ones31 (x : Nat) (w : World) (hx : x < 18446744073709551616) : Calls Try.prog 31 #[.int .u64 (x : Nat)] w fun e w' => e = .returned (.int .i64 (pop x : Nat)) ∧ w' = w := by
  have HP : Hid (pop x ≤ 64) := by rw [pop_eq]; exact popF_le 64 x
  go_enter Try.func31, Try.ntmps31
  go_wp2
  go_loop [0, 3] (fun a c => ∃ y n : Nat, y < 18446744073709551616 ∧ n ≤ 64 ∧ a = .int .u64 y ∧ c = .int .i64 n ∧ Hid (n + pop y = pop x)) (fun a _ => (intOf a).toNat)
  case atStart => exact ⟨x, 0, hx, by omega, rfl, rfl, (by show 0 + pop x = pop x; omega)⟩
  case round =>
    obtain ⟨y, n, hy, hn, rfl, rfl, HE⟩ := hrel
    by_cases h0 : y = 0
    · have HE2 : Hid (n = pop x) := by
        have h1 := HE.out
        have h2 : pop 0 = 0 := pop_zero
        rw [h0, h2] at h1
        exact h1
      have h00 : (y : Int) = 0 := by omega
      clear HE
      go_wp2
      go_ret
      exact ⟨by rw [← HE2.out]; rfl, rfl⟩
    · obtain ⟨z, hzy, hf, hs⟩ := strike_all y (by omega) hy
      have h1 : (1 : Int) ≤ (y : Int) := by omega
      have HS := hid hs
      have HLe := hid hzy
      have hn2 : n < 64 := by
        have a1 := HE.out
        have a3 := HP.out
        omega
      clear hs hzy
      go_wp2
      go_round
      case rel => exact ⟨z, n + 1, by have := HLe.out; omega, by omega, rfl, by go_num, (by have a1 := HE.out; have a2 := HS.out; show n + 1 + pop z = pop x; omega)⟩
      case measure => have := HLe.out; simp [intOf]; omega

end Go.Proofs.Qxb6603185a
