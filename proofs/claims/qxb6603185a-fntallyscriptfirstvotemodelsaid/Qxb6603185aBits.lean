/-
  Sets of voters as bits of words: the plain laws, and the forms in which the walk writes the bit operations.
-/
import Derived.Test.Qxb6603185aZeros
import Derived.Laws.BitsAllLaws
namespace Go.Proofs.Qxb6603185a
open Go.RowKit

theorem two_lt (v : Nat) (hv : v < 64) : 2 ^ v < 18446744073709551616 := by
  have : (2 : Nat) ^ v < 2 ^ 64 := Nat.pow_lt_pow_right (by omega) hv
  omega

theorem cast_two (v : Nat) : ((2 : Int) ^ v) = ((2 ^ v : Nat) : Int) := by simp

theorem wrap_two (v : Nat) (hv : v < 64) : IntKind.u64.wrap ((2 : Int) ^ v) = ((2 ^ v : Nat) : Int) := by
  rw [IntKind.wrap_u64, cast_two]
  have := two_lt v hv
  generalize 2 ^ v = p at *
  omega

theorem testBit_div (x v : Nat) : x.testBit v = (x / 2 ^ v % 2 == 1) := by
  rw [Nat.testBit_eq_decide_div_mod_eq]
  by_cases h : x / 2 ^ v % 2 = 1 <;> simp [h]

/-- '(x >> v) & 1 == 1'. -/
theorem has_form (x v : Nat) (hx : x < 18446744073709551616) : (bits .and .u64 ((x : Int) / 2 ^ v) 1 == 1) = x.testBit v := by
  rw [cast_two, ← Int.natCast_ediv]
  have h1 : x / 2 ^ v < 18446744073709551616 := Nat.lt_of_le_of_lt (Nat.div_le_self _ _) hx
  have e := u64_and_nat (x / 2 ^ v) 1 h1 (by decide)
  have e1 : ((1 : Nat) : Int) = 1 := rfl
  rw [e1] at e
  rw [e, nat_mask1, testBit_div]
  generalize x / 2 ^ v % 2 = r
  by_cases h : r = 1
  · simp [h]
  · have h2 : ((r : Int) == 1) = false := by simp; omega
    rw [h2]
    simp [h]

/-- 'x & (1 << v) != 0'. -/
theorem and_form (x v : Nat) (hx : x < 18446744073709551616) (hv : v < 64) : (bits .and .u64 (x : Int) (IntKind.u64.wrap ((2 : Int) ^ v)) != 0) = x.testBit v := by
  rw [wrap_two v hv, u64_and_nat x (2 ^ v) hx (two_lt v hv), nat_bit, testBit_div]
  have hp : 0 < 2 ^ v := Nat.two_pow_pos v
  rcases Nat.mod_two_eq_zero_or_one (x / 2 ^ v) with h | h
  · rw [h]; simp
  · rw [h]
    generalize 2 ^ v = p at *
    simp
    omega

/-- 'x | (1 << v)'. -/
theorem or_form (x v : Nat) (hx : x < 18446744073709551616) (hv : v < 64) : bits .or .u64 (x : Int) (IntKind.u64.wrap ((2 : Int) ^ v)) = ((x ||| 2 ^ v : Nat) : Int) := by
  rw [wrap_two v hv, u64_or_nat x (2 ^ v) hx (two_lt v hv)]

theorem or_lt (x v : Nat) (hx : x < 18446744073709551616) (hv : v < 64) : x ||| 2 ^ v < 18446744073709551616 := by
  have h1 : x < 2 ^ 64 := hx
  have h2 : 2 ^ v < 2 ^ 64 := Nat.pow_lt_pow_right (by omega) hv
  exact Nat.or_lt_two_pow h1 h2

theorem or_bit (x v u : Nat) : (x ||| 2 ^ v).testBit u = (x.testBit u || u == v) := by
  rw [Nat.testBit_or, Nat.testBit_two_pow]
  by_cases h : v = u
  · subst h; simp
  · have : (u == v) = false := by simp; omega
    simp [h, this]

theorem or_same (x v : Nat) (h : x.testBit v = true) : x ||| 2 ^ v = x := by
  apply Nat.eq_of_testBit_eq
  intro u
  rw [or_bit]
  by_cases e : u = v
  · subst e; simp [h]
  · have : (u == v) = false := by simp [e]
    simp [this]

/-! ### The set -/

/-- Member v: bit v of low below 64, else bit (v - 64) of the words. -/
def has (low : Nat) (hs : List Nat) (v : Nat) : Bool := if v < 64 then low.testBit v else (hs.getD ((v - 64) / 64) 0).testBit (v % 64)

/-- The words lengthened to hold word k. -/
def longer (hs : List Nat) (k : Nat) : List Nat := hs ++ List.replicate (k + 1 - hs.length) 0

/-- Bit i put into the words. -/
def bitAdd (hs : List Nat) (i : Nat) : List Nat := (longer hs (i / 64)).set (i / 64) ((hs.getD (i / 64) 0) ||| 2 ^ (i % 64))

def lowAdd (low v : Nat) : Nat := if v < 64 then low ||| 2 ^ v else low
def highAdd (hs : List Nat) (v : Nat) : List Nat := if v < 64 then hs else bitAdd hs (v - 64)

def wordsOk (hs : List Nat) : Prop := ∀ x ∈ hs, x < 18446744073709551616

theorem getD_lt {hs : List Nat} (h : wordsOk hs) (k : Nat) : hs.getD k 0 < 18446744073709551616 := by
  rw [List.getD_eq_getElem?_getD]
  by_cases hk : k < hs.length
  · rw [List.getElem?_eq_getElem hk]
    exact h _ (List.getElem_mem _)
  · rw [List.getElem?_eq_none (by omega)]
    decide

theorem longer_length (hs : List Nat) (k : Nat) : (longer hs k).length = if hs.length < k + 1 then k + 1 else hs.length := by
  simp only [longer, List.length_append, List.length_replicate]
  split <;> omega

theorem longer_getD (hs : List Nat) (k j : Nat) : (longer hs k).getD j 0 = hs.getD j 0 := by
  simp only [List.getD_eq_getElem?_getD, longer]
  by_cases h : j < hs.length
  · rw [List.getElem?_append_left h]
  · rw [List.getElem?_append_right (by omega), List.getElem?_eq_none (l := hs) (by omega)]
    by_cases h2 : j - hs.length < k + 1 - hs.length
    · simp [h2]
    · simp [h2]

theorem bitAdd_length (hs : List Nat) (i : Nat) : (bitAdd hs i).length = if hs.length < i / 64 + 1 then i / 64 + 1 else hs.length := by
  simp only [bitAdd, List.length_set, longer_length]

theorem bitAdd_getD (hs : List Nat) (i j : Nat) : (bitAdd hs i).getD j 0 = if j = i / 64 then hs.getD j 0 ||| 2 ^ (i % 64) else hs.getD j 0 := by
  have hl := longer_length hs (i / 64)
  have hg := longer_getD hs (i / 64) j
  simp only [List.getD_eq_getElem?_getD, bitAdd] at *
  by_cases e : j = i / 64
  · subst e
    rw [List.getElem?_set_self (by rw [hl]; split <;> omega), if_pos rfl]
    rfl
  · rw [List.getElem?_set_ne (fun h => e h.symm), if_neg e, hg]

theorem bitAdd_ok {hs : List Nat} (h : wordsOk hs) (i : Nat) : wordsOk (bitAdd hs i) := by
  intro x hx
  obtain ⟨j, hj, rfl⟩ := List.getElem_of_mem hx
  have e : (bitAdd hs i)[j] = (bitAdd hs i).getD j 0 := by rw [List.getD_eq_getElem?_getD, List.getElem?_eq_getElem hj]; rfl
  rw [e, bitAdd_getD]
  split
  · exact or_lt _ _ (getD_lt h j) (Nat.mod_lt _ (by omega))
  · exact getD_lt h j

theorem bitAdd_same {hs : List Nat} {i : Nat} (hl : i / 64 < hs.length) (h : (hs.getD (i / 64) 0).testBit (i % 64) = true) : bitAdd hs i = hs := by
  have e1 : longer hs (i / 64) = hs := by
    unfold longer
    rw [show i / 64 + 1 - hs.length = 0 by omega]
    simp
  unfold bitAdd
  rw [e1, or_same _ _ h]
  apply List.ext_getElem?
  intro j
  by_cases e : i / 64 = j
  · subst e
    rw [List.getElem?_set_self hl, List.getD_eq_getElem?_getD, List.getElem?_eq_getElem hl]
    rfl
  · rw [List.getElem?_set_ne e]

/-- The new set holds the old members and v. -/
theorem has_add (low : Nat) (hs : List Nat) (v u : Nat) : has (lowAdd low v) (highAdd hs v) u = (has low hs u || u == v) := by
  unfold has lowAdd highAdd
  by_cases hv : v < 64
  · rw [if_pos hv, if_pos hv]
    by_cases hu : u < 64
    · rw [if_pos hu, if_pos hu, or_bit]
    · rw [if_neg hu, if_neg hu]
      have : (u == v) = false := by simp; omega
      simp [this]
  · rw [if_neg hv, if_neg hv]
    by_cases hu : u < 64
    · rw [if_pos hu, if_pos hu]
      have : (u == v) = false := by simp; omega
      simp [this]
    · rw [if_neg hu, if_neg hu, bitAdd_getD]
      by_cases e : (u - 64) / 64 = (v - 64) / 64
      · rw [if_pos e, or_bit]
        have : ((u % 64) == ((v - 64) % 64)) = (u == v) := by
          rw [Bool.eq_iff_iff]
          simp
          omega
        rw [this]
      · rw [if_neg e]
        have : (u == v) = false := by
          simp
          intro h
          subst h
          exact e rfl
        simp [this]

theorem highAdd_ok {hs : List Nat} (h : wordsOk hs) (v : Nat) : wordsOk (highAdd hs v) := by
  unfold highAdd
  split
  · exact h
  · exact bitAdd_ok h _

theorem lowAdd_lt {low : Nat} (h : low < 18446744073709551616) (v : Nat) : lowAdd low v < 18446744073709551616 := by
  unfold lowAdd
  split
  · exact or_lt _ _ h (by assumption)
  · exact h

theorem has_none (v : Nat) : has 0 [] v = false := by
  unfold has
  split <;> simp

end Go.Proofs.Qxb6603185a
