/-
  (*voterSet).add, voterSet.emptied.
-/
import Derived.Test.Qxb6603185aTally
namespace Go.Proofs.Qxb6603185a
open Go.RowKit

def VotePost (w : World) (base B : Nat) (c : Array Value) (hv : Value) (low : Nat) (hs : List Nat) (v : Nat) (e : Ending) (w' : World) : Prop :=
  e = .returned (.bool (!has low hs v)) ∧ ∃ hv', Sole base B hv hv' w w' ∧ Blk w' B 62 ((c.setIfInBounds 4 (.int .u64 (lowAdd low v : Nat))).setIfInBounds 5 hv') ∧ w'.ownsRow base 35 1 hv' (highAdd hs v).length (words (highAdd hs v))

theorem set_self {c : Array Value} {i : Nat} {v : Value} (h : c[i]? = some v) : c.setIfInBounds i v = c := by
  apply Array.ext_getElem?
  intro j
  rw [Array.getElem?_setIfInBounds]
  by_cases e : i = j
  · subst e
    rw [h]
    have : i < c.size := by
      obtain ⟨hlt, _⟩ := Array.getElem?_eq_some_iff.1 h
      exact hlt
    simp [this]
  · rw [if_neg e]

set_option maxHeartbeats 400000 in
theorem vote33_low (B base v low : Nat) (c : Array Value) (hv : Value) (hs : List Nat) (w : World) (hB : Blk w B 62 c) (hb : base ≤ B) (h4 : c[4]? = some (.int .u64 (low : Nat))) (h5 : c[5]? = some hv) (ho : w.ownsRow base 35 1 hv hs.length (words hs)) (hlow : low < 18446744073709551616) (hl : v < 64) :
    Calls Try.prog 33 #[.pointer (some ⟨B, 4, none⟩), .int .i64 (v : Nat)] w (VotePost w base B c hv low hs v) := by
  have g4 := (hB.cell 4).trans h4
  have f4 := hB.frozen 4
  have hand := and_form low v hlow hl
  have hP : VotePost w base B c hv low hs v (.returned (.bool (!low.testBit v))) (w.setCell ⟨B, 4, none⟩ (.int .u64 (bits .or .u64 (low : Int) (IntKind.u64.wrap ((2 : Int) ^ v))))) := by
    rw [or_form low v hlow hl]
    refine ⟨by simp [has, hl], hv, Sole.setB hv w hb _ _, ?_, ?_⟩
    · have e : (c.setIfInBounds 4 (.int .u64 (lowAdd low v : Nat)))[5]? = some hv := by rw [Array.getElem?_setIfInBounds, if_neg (by omega), h5]
      rw [set_self e, lowAdd, if_pos hl]
      exact hB.set 4 _
    · rw [highAdd, if_pos hl]
      exact ho.kept (grownBy_store w ⟨B, 4, none⟩ _) (.inr (own_ne_blk ho hB (by decide)))
  have HP := hid hP
  clear hB ho h4 h5 hP
  generalize low.testBit v = tb at *
  go_enter Try.func33, Try.ntmps33
  go_wp2
  go_ret
  exact HP.out

set_option maxHeartbeats 400000 in
theorem vote33_high (B base v low : Nat) (c : Array Value) (hv : Value) (hs : List Nat) (w : World) (hB : Blk w B 62 c) (hb : base ≤ B) (h4 : c[4]? = some (.int .u64 (low : Nat))) (h5 : c[5]? = some hv) (ho : w.ownsRow base 35 1 hv hs.length (words hs)) (hok : wordsOk hs) (hl : 64 ≤ v) (hv2 : v ≤ 65536) :
    Calls Try.prog 33 #[.pointer (some ⟨B, 4, none⟩), .int .i64 (v : Nat)] w (VotePost w base B c hv low hs v) := by
  have H := bit34 B base (v - 64) c hv hs w hB hb h5 ho hok (by omega)
  have e : ((v - 64 : Nat) : Int) = (v : Int) - 64 := by omega
  rw [e] at H
  have H' := hid H
  have H4 := hid h4
  clear hB ho h4 h5 H e hok
  go_enter Try.func33, Try.ntmps33
  go_wp2_with fail
  refine H'.out.mono ?_
  rintro e w1 ⟨rfl, hv', b1, b2, b3⟩
  have hP : VotePost w base B c hv low hs v (.returned (.bool (!(hs.getD ((v - 64) / 64) 0).testBit ((v - 64) % 64)))) w1 := by
    refine ⟨?_, hv', b1, ?_, ?_⟩
    · rw [has, if_neg (by omega), show (v - 64) % 64 = v % 64 by omega]
    · rw [lowAdd, if_neg (by omega), set_self H4.out]
      exact b2
    · rw [highAdd, if_neg (by omega)]
      exact b3
  have HP := hid hP
  clear b1 b2 b3 hP H'
  generalize (hs.getD ((v - 64) / 64) 0).testBit ((v - 64) % 64) = tb at *
  go_wp2
  go_ret
  exact HP.out

theorem vote33 (B base v low : Nat) (c : Array Value) (hv : Value) (hs : List Nat) (w : World) (hB : Blk w B 62 c) (hb : base ≤ B) (h4 : c[4]? = some (.int .u64 (low : Nat))) (h5 : c[5]? = some hv) (ho : w.ownsRow base 35 1 hv hs.length (words hs)) (hok : wordsOk hs) (hlow : low < 18446744073709551616) (hv2 : v ≤ 65536) :
    Calls Try.prog 33 #[.pointer (some ⟨B, 4, none⟩), .int .i64 (v : Nat)] w (VotePost w base B c hv low hs v) := by
  by_cases hl : v < 64
  · exact vote33_low B base v low c hv hs w hB hb h4 h5 ho hlow hl
  · exact vote33_high B base v low c hv hs w hB hb h4 h5 ho hok (by omega) hv2

/-- emptied: two blocks of its own; the words cut to none. -/
def EmptyPost (w : World) (low n cap : Nat) (a : Option Addr) (e : Ending) (w' : World) : Prop :=
  e = .returned (.agg #[.int .u64 0, .slice a 0 cap]) ∧ w' = (w.alloc (.cells #[.int .u64 (low : Nat), .slice a n cap] 60)).alloc (.cells #[.int .u64 0, .slice a 0 cap] 60)

set_option maxHeartbeats 400000 in
theorem empty32 (low n cap : Nat) (a : Option Addr) (w : World) : Calls Try.prog 32 #[.agg #[.int .u64 (low : Nat), .slice a n cap]] w (EmptyPost w low n cap a) := by
  go_enter Try.func32, Try.ntmps32
  go_wp2
  exact bodyPost_ret (v := .agg #[.int .u64 0, .slice a 0 cap]) (by simp [results, Try.results32, go_sem]) rfl ⟨rfl, rfl⟩

end Go.Proofs.Qxb6603185a
