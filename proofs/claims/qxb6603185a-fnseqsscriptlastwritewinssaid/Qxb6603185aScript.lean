/-
  THE PLAIN LAW OF THE SCRIPT OF WRITES: no Go in sight but the words and entries that a seqs holds.
-/
import Derived.Test.Qxb6603185aSeqs
import Derived.Test.Qxb6603185aWords
namespace Go.Proofs.Qxb6603185a
open Go.RowKit Go.Maps

/-- After i writes: the value of sender k's last write; whether k was written; how far the slice runs; how many senders from 64 on. -/
def lastv (S : Nat → Nat) (V : Nat → Int) : Nat → Nat → Int
  | 0, _ => 0
  | i + 1, k => if S i = k then V i else lastv S V i k
def wrote (S : Nat → Nat) : Nat → Nat → Bool
  | 0, _ => false
  | i + 1, k => wrote S i k || S i == k
def wlen (S : Nat → Nat) : Nat → Nat
  | 0 => 0
  | i + 1 => if S i < 64 ∧ wlen S i < S i + 1 then S i + 1 else wlen S i
def dist (S : Nat → Nat) : Nat → Nat
  | 0 => 0
  | i + 1 => if S i < 64 then dist S i else if wrote S i (S i) then dist S i else dist S i + 1
def lowOf (S : Nat → Nat) (V : Nat → Int) : Nat → List Value
  | 0 => []
  | i + 1 => if S i < 64 then setLow (lowOf S V i) (S i) (V i) else lowOf S V i
def highOf (S : Nat → Nat) (V : Nat → Int) : Nat → DataW Unit
  | 0 => .map []
  | i + 1 => if S i < 64 then highOf S V i else setHigh (highOf S V i) (S i) (V i)

theorem wlen_le (S : Nat → Nat) (i : Nat) : wlen S i ≤ 64 := by
  induction i with
  | zero => simp [wlen]
  | succ i ih => simp only [wlen]; split <;> omega

theorem dist_le (S : Nat → Nat) (i : Nat) : dist S i ≤ i := by
  induction i with
  | zero => simp [dist]
  | succ i ih => simp only [dist]; split <;> (try split) <;> omega

theorem setLow_length (xs : List Value) (x : Nat) (y : Int) : (setLow xs x y).length = if xs.length < x + 1 then x + 1 else xs.length := by
  simp only [setLow, noughts, List.length_set, List.length_append, List.length_replicate]
  split <;> omega

theorem low_len (S : Nat → Nat) (V : Nat → Int) (i : Nat) : (lowOf S V i).length = wlen S i := by
  induction i with
  | zero => rfl
  | succ i ih =>
    simp only [lowOf, wlen]
    by_cases h : S i < 64
    · rw [if_pos h, setLow_length, ih]
      by_cases h2 : wlen S i < S i + 1
      · rw [if_pos h2, if_pos ⟨h, h2⟩]
      · rw [if_neg h2, if_neg (fun hh => h2 hh.2)]
    · rw [if_neg h, if_neg (fun hh => h hh.1), ih]

theorem lastv_none (S : Nat → Nat) (V : Nat → Int) (i k : Nat) (h : wrote S i k = false) : lastv S V i k = 0 := by
  induction i with
  | zero => rfl
  | succ i ih =>
    simp only [wrote, Bool.or_eq_false_iff] at h
    have hne : S i ≠ k := by simpa using h.2
    simp only [lastv, if_neg hne]
    exact ih h.1

theorem wrote_lt (S : Nat → Nat) (i k : Nat) (hk : k < 64) (h : wrote S i k = true) : k < wlen S i := by
  induction i with
  | zero => cases h
  | succ i ih =>
    simp only [wrote, Bool.or_eq_true] at h
    simp only [wlen]
    rcases h with h | h
    · have := ih h
      split <;> omega
    · have hk2 : S i = k := by simpa using h
      split <;> omega

theorem lastv_past (S : Nat → Nat) (V : Nat → Int) (i k : Nat) (hk : k < 64) (h : wlen S i ≤ k) : lastv S V i k = 0 := by
  apply lastv_none
  cases hw : wrote S i k with
  | false => rfl
  | true => have := wrote_lt S i k hk hw; omega

theorem wrote_mem (S : Nat → Nat) (n i : Nat) (h : i < n) : wrote S n (S i) = true := by
  induction n with
  | zero => omega
  | succ n ih =>
    simp only [wrote, Bool.or_eq_true]
    by_cases e : i = n
    · right; simp [e]
    · left; exact ih (by omega)

theorem low_get (S : Nat → Nat) (V : Nat → Int) (i k : Nat) (hk : k < wlen S i) : (lowOf S V i)[k]? = some (.int .u64 (lastv S V i k)) := by
  induction i with
  | zero => simp [wlen] at hk
  | succ i ih =>
    have hl := low_len S V i
    have h64 := wlen_le S (i + 1)
    by_cases h : S i < 64
    · have e : lowOf S V (i + 1) = setLow (lowOf S V i) (S i) (V i) := by simp [lowOf, h]
      have hw := hk
      simp only [wlen] at hw
      rw [e]
      simp only [setLow, lastv]
      by_cases hik : S i = k
      · rw [if_pos hik, ← hik, List.getElem?_set_self]
        simp only [List.length_append, hl, noughts, List.length_replicate]
        omega
      · rw [if_neg hik, List.getElem?_set_ne hik]
        by_cases hlt : k < wlen S i
        · rw [List.getElem?_append_left (by omega)]
          exact ih hlt
        · rw [List.getElem?_append_right (by omega), lastv_past S V i k (by omega) (by omega)]
          have hlen : k - (lowOf S V i).length < S i + 1 - (lowOf S V i).length := by
            rw [hl]
            split at hw <;> omega
          simp [noughts, hlen]
    · have e : lowOf S V (i + 1) = lowOf S V i := by simp [lowOf, h]
      have hw : wlen S (i + 1) = wlen S i := by simp only [wlen]; rw [if_neg (fun hh => h hh.1)]
      rw [hw] at hk h64
      rw [e, ih hk]
      have hik : S i ≠ k := by omega
      simp [lastv, hik]

theorem key_ne {a b : Nat} (h : a ≠ b) : (Lit.int .i64 (a : Int)) ≠ Lit.int .i64 (b : Int) := by
  intro e
  injection e with e1 e2
  omega

theorem high_tidy (S : Nat → Nat) (V : Nat → Int) (i : Nat) : Tidy (highOf S V i) := by
  induction i with
  | zero => exact tidy_empty
  | succ i ih =>
    simp only [highOf]
    split
    · exact ih
    · exact ih.put (by trivial) _

theorem high_has (S : Nat → Nat) (V : Nat → Int) (i k : Nat) (hk : 64 ≤ k) : Maps.has (highOf S V i) (.int .i64 (k : Nat)) = wrote S i k := by
  induction i with
  | zero => rfl
  | succ i ih =>
    simp only [highOf, wrote]
    by_cases h : S i < 64
    · rw [if_pos h, ih]
      have : (S i == k) = false := by simp; omega
      simp [this]
    · rw [if_neg h]
      by_cases e : S i = k
      · subst e
        rw [setHigh, has_put_same (high_tidy S V i).isMap (by trivial)]
        simp
      · rw [setHigh, has_put_other (key_ne (fun hh => e hh.symm)), ih]
        simp [e]

theorem high_at (S : Nat → Nat) (V : Nat → Int) (i k : Nat) (hk : 64 ≤ k) : (highOf S V i).atKey (.int .i64 (k : Nat)) (.lit (.int .u64 0)) = .lit (.int .u64 (lastv S V i k)) := by
  induction i with
  | zero => rfl
  | succ i ih =>
    simp only [highOf, lastv]
    by_cases h : S i < 64
    · rw [if_pos h, ih, if_neg (by omega)]
    · rw [if_neg h]
      by_cases e : S i = k
      · subst e
        rw [setHigh, atKey_put_same (high_tidy S V i).isMap (by trivial), if_pos rfl]
      · rw [setHigh, atKey_put_other (key_ne (fun hh => e hh.symm)), ih, if_neg e]

theorem high_size (S : Nat → Nat) (V : Nat → Int) (i : Nat) : Maps.size (highOf S V i) = dist S i := by
  induction i with
  | zero => rfl
  | succ i ih =>
    simp only [highOf, dist]
    by_cases h : S i < 64
    · rw [if_pos h, if_pos h, ih]
    · rw [if_neg h, if_neg h, setHigh, size_put (high_tidy S V i), high_has S V i (S i) (by omega), ih]

theorem lastv_wf (S : Nat → Nat) (V : Nat → Int) (i k : Nat) (h : ∀ j, j < i → (Lit.int .u64 (V j)).wf = true) : (Lit.int .u64 (lastv S V i k)).wf = true := by
  induction i with
  | zero => show (Lit.int .u64 0).wf = true; decide
  | succ i ih =>
    simp only [lastv]
    split
    · exact h i (by omega)
    · exact ih (fun j hj => h j (by omega))

set_option maxHeartbeats 400000 in
/-- zzSeqOf reads the last write. -/
theorem seqOf17 (S : Nat → Nat) (V : Nat → Int) (n base cnt k : Nat) (v m : Value) (w : World) (h : Seqs w base cnt v m (lowOf S V n) (highOf S V n)) (hk : k ≤ 9223372036854775807) :
    Calls Try.prog 17 #[v, m, .int .i64 (k : Nat)] w fun e w' => e = .returned (.int .u64 (lastv S V n k)) ∧ w' = w := by
  have hl := low_len S V n
  have h64 := wlen_le S n
  by_cases hk64 : k < 64
  · by_cases hlt : k < wlen S n
    · obtain ⟨g, cap, rfl, hg, _⟩ := h.own.form (by omega)
      have hc : w.cell? ⟨g, k, none⟩ = some (.int .u64 (lastv S V n k)) := by
        rw [h.own.cellAt k (by omega)]
        exact low_get S V n k hlt
      rw [hl]
      obtain ⟨_, r, hm⟩ := h.shape
      clear h hl
      subst hm
      generalize lastv S V n k = q at *
      generalize wlen S n = l at *
      go_enter Try.func17, Try.ntmps17
      go_wp2
      go_ret
      exact ⟨rfl, rfl⟩
    · have e := lastv_past S V n k hk64 (by omega)
      obtain ⟨⟨a, cap, hv⟩, r, hm⟩ := h.shape
      rw [hl] at hv
      clear h hl
      rw [e]
      clear e
      subst hm hv
      generalize wlen S n = l at *
      go_enter Try.func17, Try.ntmps17
      go_wp2
      go_ret
      exact ⟨rfl, rfl⟩
  · have hat := high_at S V n k (by omega)
    have hkey := keyOf_int_mk (k := 3) Try.underlying3 (a := (k : Nat)) (WalkArith.wf_i64 (by omega))
    obtain ⟨⟨a, cap, hv⟩, _⟩ := h.shape
    rw [hl] at hv
    rcases h.map with ⟨rfl, hD⟩ | ⟨b, rfl, _, _, hown⟩
    · rw [hD] at hat
      have e : lastv S V n k = 0 := by
        have : (DataW.lit (H := Unit) (.int .u64 0)) = .lit (.int .u64 (lastv S V n k)) := hat
        injection this with e1
        injection e1 with _ e2
        exact e2.symm
      have hrun := fun w => look_nil (w := w) false law3 Try.underlying32 (zero35 _) hkey
      rw [e]
      clear h hl hat hD e
      subst hv
      generalize wlen S n = l at *
      go_enter Try.func17, Try.ntmps17
      go_wp2
      go_ret
      exact ⟨rfl, rfl⟩
    · have HO := hid hown
      have HA := hid hat
      clear h hl hat hown
      subst hv
      generalize wlen S n = l at *
      generalize highOf S V n = D at *
      generalize lastv S V n k = q at *
      go_enter Try.func17, Try.ntmps17
      go_wp2_with (at_lookup; refine wpList_lookup_own_int _ rfl _ _ 32 rfl 3 35 .u64 law3 Try.underlying32 Try.underlying35 (zero35 _) b cnt _ rfl HO.out _ _ rfl hkey ?_)
      intro c hat _
      have e : q = c := by
        have := HA.out.symm.trans hat
        injection this with e1
        injection e1 with _ e2
      subst e
      clear hat HA HO
      go_wp2
      go_ret
      exact ⟨rfl, rfl⟩

end Go.Proofs.Qxb6603185a
