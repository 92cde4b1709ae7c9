/-
  zzCount walked.
-/
import Derived.Test.Qxb6603185aPop
namespace Go.Proofs.Qxb6603185a
open Go.RowKit

def cntTo (low : Nat) (hs : List Nat) (k : Nat) : Nat := pop low + ((hs.take k).map pop).sum

theorem cntTo_zero (low : Nat) (hs : List Nat) : cntTo low hs 0 = pop low := by unfold cntTo; simp
theorem cntTo_all (low : Nat) (hs : List Nat) : cntTo low hs hs.length = popAll low hs := by unfold cntTo popAll; simp
theorem cntTo_succ (low : Nat) (hs : List Nat) (k : Nat) (hk : k < hs.length) : cntTo low hs (k + 1) = cntTo low hs k + pop (hs.getD k 0) := by
  unfold cntTo
  rw [List.take_succ_eq_append_getElem hk, List.map_append, List.sum_append, List.getD_eq_getElem?_getD, List.getElem?_eq_getElem hk]
  simp
  omega
theorem pop_le (x : Nat) : pop x ≤ 64 := by rw [pop_eq]; exact popF_le 64 x

def CountPost (w : World) (low : Nat) (hs : List Nat) (e : Ending) (w' : World) : Prop := e = .returned (.int .i64 (popAll low hs : Nat)) ∧ w' = w

set_option maxHeartbeats 400000 in
theorem count25 (low cap : Nat) (a : Option Addr) (hs : List Nat) (w : World) (h : WordsAt w a hs) (hok : wordsOk hs) (hlow : low < 18446744073709551616) (hn : hs.length ≤ 1073741824) :
    Calls Try.prog 25 #[.int .u64 (low : Nat), .slice a hs.length cap] w (CountPost w low hs) := by
  have H1 := hid (ones31 low w hlow)
  have HW := hid h
  have HG := hid (getD_lt hok)
  have H0 := hid (cntTo_zero low hs)
  have hp := pop_le low
  clear h hok
  go_enter Try.func25, Try.ntmps25
  go_wp2_with (go_at_call 31; refine H1.out.mono ?_; rintro e w' ⟨rfl, hw⟩; subst hw; rw [← H0.out] at hp ⊢)
  clear H1
  go_loop [5, 6] (fun c i => ∃ k n : Nat, k ≤ hs.length ∧ n ≤ 64 + 64 * k ∧ i = .int .i64 k ∧ c = .int .i64 n ∧ Hid (n = cntTo low hs k)) (fun _ i => hs.length - (intOf i).toNat)
  case atStart => exact ⟨0, _, Nat.zero_le _, by omega, rfl, rfl, hid rfl⟩
  case round =>
    obtain ⟨k, n, hk, hnn, rfl, rfl, HE⟩ := hrel
    by_cases hlt : k < hs.length
    · obtain ⟨b, off, rfl, hc⟩ := HW.out.pos hlt
      have g := hc k hlt
      have HS := hid (cntTo_succ low hs k hlt)
      have hq := pop_le (hs.getD k 0)
      have H2 := hid (fun w => ones31 (hs.getD k 0) w (HG.out k))
      clear hc HW HG
      generalize hs.getD k 0 = x at *
      generalize hs.length = len at *
      go_wp2_with (go_at_call 31; refine (H2.out _).mono ?_; rintro e w' ⟨rfl, hw⟩; subst hw; clear H2)
      go_round
      case rel => exact ⟨k + 1, n + pop x, by omega, by omega, by go_num, by go_num, hid (by have a1 := HE.out; have a2 := HS.out; omega)⟩
      case measure => simp [intOf]; omega
    · have e : k = hs.length := by omega
      have HE2 : Hid (n = popAll low hs) := hid (by rw [HE.out, e, cntTo_all])
      clear HE H0 hp
      generalize hs.length = len at *
      go_wp2
      go_ret
      exact ⟨by rw [← HE2.out]; rfl, rfl⟩

end Go.Proofs.Qxb6603185a
