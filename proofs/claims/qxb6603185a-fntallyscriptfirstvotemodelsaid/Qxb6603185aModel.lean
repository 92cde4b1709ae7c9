/-
  FnTallyScriptFirstVoteModel: the plain law.
-/
import Derived.Test.Qxb6603185aCount
import Derived.Test.Qxb6603185aVotes
namespace Go.Proofs.Qxb6603185a
open Go.RowKit

def Script.same (z : Script) (i j : Nat) : Bool := sameId (z.S i) (z.Q i) (z.E i) (z.S j) (z.Q j) (z.E j)

theorem Script.same_self (z : Script) (i : Nat) : z.same i i = true := by unfold Script.same; simp [sameId]

/-- Has voter u voted for vote F's message, in F's term, in [F, k)? -/
def hitR (z : Script) (F : Nat) (u : Int) : Nat → Bool
  | 0 => false
  | k + 1 => hitR z F u k || (decide (F ≤ k) && z.T k == z.T F && z.same k F && z.V k == u)

/-- Was there a vote for another message, in F's term, in [F, k)? -/
def othR (z : Script) (F : Nat) : Nat → Bool
  | 0 => false
  | k + 1 => othR z F k || (decide (F ≤ k) && z.T k == z.T F && !z.same k F)

def hitB (z : Script) (F : Nat) (u : Int) (k : Nat) : Bool := hitR z F u k
def othB (z : Script) (F k : Nat) : Bool := othR z F k

theorem hitB_succ (z : Script) (F : Nat) (u : Int) (k : Nat) : hitB z F u (k + 1) = (hitB z F u k || (decide (F ≤ k) && z.T k == z.T F && z.same k F && z.V k == u)) := by
  unfold hitB
  rfl
theorem othB_succ (z : Script) (F k : Nat) : othB z F (k + 1) = (othB z F k || (decide (F ≤ k) && z.T k == z.T F && !z.same k F)) := by
  unfold othB
  rfl

theorem hitB_start (z : Script) (F : Nat) (u : Int) (k : Nat) (h : k ≤ F) : hitB z F u k = false := by
  induction k with
  | zero => unfold hitB; rfl
  | succ k ih =>
    rw [hitB_succ, ih (by omega), decide_eq_false (by omega)]
    rfl
theorem othB_start (z : Script) (F k : Nat) (h : k ≤ F) : othB z F k = false := by
  induction k with
  | zero => unfold othB; rfl
  | succ k ih =>
    rw [othB_succ, ih (by omega), decide_eq_false (by omega)]
    rfl

theorem hitB_of (z : Script) (F j n : Nat) (h1 : F ≤ j) (h2 : j < n) (h3 : z.T j = z.T F) (h4 : z.same j F = true) : hitB z F (z.V j) n = true := by
  induction n with
  | zero => omega
  | succ n ih =>
    rw [hitB_succ]
    by_cases e : j = n
    · subst e
      simp [h1, h3, h4]
    · rw [ih (by omega)]
      rfl

/-- What holds behind i votes, i > 0: the first of the current term is F; c votes count. -/
structure Good (z : Script) (i F c low : Nat) (hs : List Nat) (sp : Bool) : Prop where
  lt : F < i
  pos : 1 ≤ c
  le : c ≤ i
  popEq : popAll low hs = c
  hasEq : ∀ u : Nat, has low hs u = hitB z F u i
  split : sp = othB z F i
  ok : wordsOk hs
  lowLt : low < 18446744073709551616
  len : hs.length ≤ 1024

def talOf (z : Script) (F c low : Nat) (hs : List Nat) (sp : Bool) : Tal := ⟨z.T F, z.S F, z.Q F, z.E F, low, hs, (c : Nat), sp⟩

theorem nat_eq_int (u v : Nat) : (u == v) = ((v : Int) == (u : Int)) := by
  rw [Bool.eq_iff_iff]
  simp only [beq_iff_eq]
  omega

/-- The first vote of a new term (or of all). -/
theorem good_new (z : Script) (i v : Nat) (hv : z.V i = (v : Nat)) (hv2 : v ≤ 65536) : Good z (i + 1) i 1 (lowAdd 0 v) (highAdd [] v) false := by
  refine ⟨by omega, Nat.le_refl _, by omega, ?_, fun u => ?_, ?_, highAdd_ok (by intro x hx; cases hx) v, lowAdd_lt (by decide) v, by rw [highAdd_nil]; exact need_le hv2⟩
  · rw [popAll_add 0 [] v (has_none v)]
    unfold popAll
    rw [pop_zero]
    rfl
  · rw [has_add, has_none, hitB_succ, hitB_start z i u i (Nat.le_refl _), z.same_self, hv, nat_eq_int]
    simp
  · rw [othB_succ, othB_start z i i (Nat.le_refl _), z.same_self]
    simp

theorem Good.old {z : Script} {i F c low : Nat} {hs : List Nat} {sp : Bool} (h : Good z i F c low hs sp) (ht : (z.T i == z.T F) = false) : Good z (i + 1) F c low hs sp :=
  ⟨Nat.lt_succ_of_lt h.lt, h.pos, Nat.le_succ_of_le h.le, h.popEq, fun u => by rw [h.hasEq u, hitB_succ, ht]; simp, by rw [h.split, othB_succ, ht]; simp, h.ok, h.lowLt, h.len⟩

theorem Good.other {z : Script} {i F c low : Nat} {hs : List Nat} {sp : Bool} (h : Good z i F c low hs sp) (ht : (z.T i == z.T F) = true) (hd : z.same i F = false) : Good z (i + 1) F c low hs true :=
  ⟨Nat.lt_succ_of_lt h.lt, h.pos, Nat.le_succ_of_le h.le, h.popEq, fun u => by rw [h.hasEq u, hitB_succ, hd]; simp, by
    have := h.lt
    rw [othB_succ, ht, hd, decide_eq_true (show F ≤ i by omega)]; simp, h.ok, h.lowLt, h.len⟩

theorem Good.again {z : Script} {i F c low v : Nat} {hs : List Nat} {sp : Bool} (h : Good z i F c low hs sp) (hv : z.V i = (v : Nat)) (hd : z.same i F = true) (hh : has low hs v = true) : Good z (i + 1) F c low hs sp :=
  ⟨Nat.lt_succ_of_lt h.lt, h.pos, Nat.le_succ_of_le h.le, h.popEq, fun u => by
    rw [hitB_succ, ← h.hasEq u, hv]
    by_cases e : u = v
    · subst e; rw [hh]; simp
    · rw [← nat_eq_int u v, show (u == v) = false by simpa using e]; simp, by rw [h.split, othB_succ, hd]; simp, h.ok, h.lowLt, h.len⟩

theorem Good.more {z : Script} {i F c low v : Nat} {hs : List Nat} {sp : Bool} (h : Good z i F c low hs sp) (hv : z.V i = (v : Nat)) (hv2 : v ≤ 65536) (ht : (z.T i == z.T F) = true) (hd : z.same i F = true) (hh : has low hs v = false) : Good z (i + 1) F (c + 1) (lowAdd low v) (highAdd hs v) sp := by
  have hlt := h.lt
  have hle := h.le
  refine ⟨by omega, by omega, by omega, by rw [popAll_add low hs v hh, h.popEq], fun u => ?_, by rw [h.split, othB_succ, hd]; simp, highAdd_ok h.ok v, lowAdd_lt h.lowLt v, ?_⟩
  · rw [has_add, h.hasEq u, hitB_succ, ht, hd, hv, ← nat_eq_int u v, decide_eq_true (show F ≤ i by omega)]
    simp
  · have := need_le hv2
    have := h.len
    rw [highAdd_length]
    split <;> omega

/-- One more vote: what the tally answers, and what holds behind it. want: the law's own reckoning. -/
def Step (z : Script) (i F c : Nat) (w : Bool) (r : Bool × Tal) : Prop := r.1 = w ∧ ∃ (low : Nat) (hs : List Nat) (sp : Bool), r.2 = talOf z F (c + if w then 1 else 0) low hs sp ∧ Good z (i + 1) F (c + if w then 1 else 0) low hs sp

theorem step_first (z : Script) (v : Nat) (hv : z.V 0 = (v : Nat)) (hv2 : v ≤ 65536) (h0 : 0 ≤ z.T 0) : Step z 0 0 0 true (Tal.add ⟨0, 0, 0, 0, 0, [], 0, false⟩ (z.T 0) (z.S 0) (z.Q 0) (z.E 0) v) := by
  rw [add_reset (by omega) (.inr rfl)]
  exact ⟨rfl, _, _, _, rfl, good_new z 0 v hv hv2⟩

theorem step_new (z : Script) {i F c low v : Nat} {hs : List Nat} {sp : Bool} (hv : z.V i = (v : Nat)) (hv2 : v ≤ 65536) (ht : z.T F < z.T i) : Step z i i 0 true (Tal.add (talOf z F c low hs sp) (z.T i) (z.S i) (z.Q i) (z.E i) v) := by
  unfold talOf
  rw [add_reset (by omega) (.inl ht)]
  exact ⟨rfl, _, _, _, rfl, good_new z i v hv hv2⟩

theorem step_old {z : Script} {i F c low v : Nat} {hs : List Nat} {sp : Bool} (h : Good z i F c low hs sp) (ht : ¬ z.T F < z.T i) (ht2 : (z.T i == z.T F) = false) : Step z i F c false (Tal.add (talOf z F c low hs sp) (z.T i) (z.S i) (z.Q i) (z.E i) v) := by
  have : z.T i ≠ z.T F := by simpa using ht2
  unfold talOf
  rw [add_old (by omega)]
  exact ⟨rfl, _, _, _, rfl, h.old ht2⟩

theorem step_other {z : Script} {i F c low v : Nat} {hs : List Nat} {sp : Bool} (h : Good z i F c low hs sp) (ht2 : (z.T i == z.T F) = true) (hd : z.same i F = false) : Step z i F c false (Tal.add (talOf z F c low hs sp) (z.T i) (z.S i) (z.Q i) (z.E i) v) := by
  have e : z.T i = z.T F := by simpa using ht2
  have hp := h.pos
  unfold talOf
  rw [add_split (by omega) (by rintro (h | h) <;> omega) hd]
  exact ⟨rfl, _, _, _, rfl, h.other ht2 hd⟩

theorem step_same {z : Script} {i F c low v : Nat} {hs : List Nat} {sp : Bool} (h : Good z i F c low hs sp) (hi : i ≤ 1048576) (hv : z.V i = (v : Nat)) (hv2 : v ≤ 65536) (ht2 : (z.T i == z.T F) = true) (hd : z.same i F = true) : Step z i F c (!hitB z F (z.V i) i) (Tal.add (talOf z F c low hs sp) (z.T i) (z.S i) (z.Q i) (z.E i) v) := by
  have e : z.T i = z.T F := by simpa using ht2
  have hp := h.pos
  have hle := h.le
  have hh := h.hasEq v
  rw [hv, ← hh]
  unfold talOf
  cases hb : has low hs v with
  | true =>
    rw [add_had (by omega) (by rintro (h | h) <;> omega) hd hb]
    exact ⟨rfl, _, _, _, rfl, h.again hv hd hb⟩
  | false =>
    rw [add_new (by omega) (by rintro (h | h) <;> omega) hd hb]
    have ew : wrap64 ((c : Int) + 1) = ((c + 1 : Nat) : Int) := by
      unfold wrap64
      omega
    rw [ew]
    exact ⟨rfl, _, _, _, rfl, h.more hv hv2 ht2 hd hb⟩

end Go.Proofs.Qxb6603185a
