/-
  THE WALKS THAT THE LAWS OF THIS SEAT SHARE: the bounds, the copies, the comparison of bytes.
-/
import Derived.Test.Qxb6603185aRows
import Derived.WalkKit
import Derived.WalkSpells
import Derived.WalkLawsBesides
import Derived.Deep.QuietTactic
import Derived.BigQuiet
import Derived.Deep.OwnRows
import Derived.Deep.LoopGhost
namespace Go.Proofs.Qxb6603185a
open Go.RowKit

/-- n cells lie behind the address, cell r holding V r (nothing is said of the address where n is nought). -/
def CellsAt (w : World) (ao : Option Addr) (n : Nat) (V : Nat → Value) : Prop :=
  n = 0 ∨ ∃ b off, ao = some ⟨b, off, none⟩ ∧ ∀ r, r < n → w.cell? ⟨b, off + r, none⟩ = some (V r)

theorem CellsAt.pos {w : World} {ao : Option Addr} {n : Nat} {V : Nat → Value} (h : CellsAt w ao n V) {k : Nat} (hk : k < n) :
    ∃ b off, ao = some ⟨b, off, none⟩ ∧ ∀ r, r < n → w.cell? ⟨b, off + r, none⟩ = some (V r) := by
  rcases h with h | h
  · omega
  · exact h

def psum (L : Nat → Nat) : Nat → Nat
  | 0 => 0
  | k + 1 => psum L k + L k

theorem psum_mono (L : Nat → Nat) {i j : Nat} (h : i ≤ j) : psum L i ≤ psum L j := by
  induction j with
  | zero => have : i = 0 := by omega
            subst this; exact Nat.le_refl _
  | succ j ih =>
    by_cases e : i = j + 1
    · subst e; exact Nat.le_refl _
    · have := ih (by omega); simp only [psum]; omega

/-- What the bound's two checks hand back. -/
def FitsPost (w : World) (p : Prop) (e : Ending) (w' : World) : Prop := ∃ b, e = .returned (.bool b) ∧ w' = w ∧ (b = true → p)

set_option maxHeartbeats 400000 in
theorem bytes8 (ao : Option Addr) (n cap : Nat) (A : Nat → Option Addr) (L C : Nat → Nat) (w : World) (hn : n ≤ maxLen) (hr : CellsAt w ao n (fun r => .slice (A r) (L r) (C r))) (hL : ∀ r, r < n → L r ≤ maxLen) :
    Calls Try.prog 8 #[.slice ao n cap] w (FitsPost w (n ≤ 1048576 ∧ ∀ r, r < n → L r ≤ 1048576)) := by
  unfold maxLen at hn hL
  by_cases h1 : 1048576 < n
  · go_enter Try.func8, Try.ntmps8
    go_wp2
    go_ret
    exact ⟨false, rfl, rfl, fun h => by cases h⟩
  · go_enter Try.func8, Try.ntmps8
    go_wp2
    go_loop [3, 4] (fun t i => ∃ (k : Nat) (s : Nat), k ≤ n ∧ i = .int .i64 k ∧ t = .int .i64 s ∧ s ≤ 1048576 ∧ ∀ r, r < k → L r ≤ 1048576) (fun _ i => n - (intOf i).toNat)
    case atStart => exact ⟨0, n, Nat.zero_le _, rfl, rfl, by omega, fun r hr => by omega⟩
    case round =>
      obtain ⟨k, s, hk, rfl, rfl, hs, hall⟩ := hrel
      by_cases hlt : k < n
      · obtain ⟨b, off, rfl, hc⟩ := hr.pos hlt
        have hck := hc k hlt
        have hLk := hL k hlt
        clear hc hr hL
        by_cases h2 : 1048576 < L k
        · clear hall
          go_wp2
          go_ret
          exact ⟨false, rfl, rfl, fun h => by cases h⟩
        · have HA : Hid (∀ r, r < k → L r ≤ 1048576) := hall
          clear hall
          by_cases h3 : 1048576 < s + L k
          · go_wp2
            go_ret
            exact ⟨false, rfl, rfl, fun h => by cases h⟩
          · go_wp2
            go_round
            case rel =>
              exact ⟨k + 1, s + L k, by omega, by go_num, by go_num, by omega, fun r hr => by
                by_cases e : r = k
                · subst e; omega
                · exact HA.out r (by omega)⟩
            case measure => simp [intOf]; omega
      · have HA : Hid (∀ r, r < k → L r ≤ 1048576) := hall
        clear hall hr hL
        go_wp2
        go_ret
        exact ⟨true, rfl, rfl, fun _ => ⟨by omega, fun r hr => HA.out r (by omega)⟩⟩

set_option maxHeartbeats 400000 in
theorem bytes26 (ao : Option Addr) (n cap : Nat) (A : Nat → Option Addr) (L C : Nat → Nat) (w : World) (hn : n ≤ maxLen) (hr : CellsAt w ao n (fun r => .slice (A r) (L r) (C r))) (hL : ∀ r, r < n → L r ≤ maxLen) :
    Calls Try.prog 26 #[.slice ao n cap] w (FitsPost w (n ≤ 1048576 ∧ ∀ r, r < n → L r ≤ 1048576)) := by
  unfold maxLen at hn hL
  by_cases h1 : 1048576 < n
  · go_enter Try.func26, Try.ntmps26
    go_wp2
    go_ret
    exact ⟨false, rfl, rfl, fun h => by cases h⟩
  · go_enter Try.func26, Try.ntmps26
    go_wp2
    go_loop [3, 4] (fun t i => ∃ (k : Nat) (s : Nat), k ≤ n ∧ i = .int .i64 k ∧ t = .int .i64 s ∧ s ≤ 1048576 ∧ ∀ r, r < k → L r ≤ 1048576) (fun _ i => n - (intOf i).toNat)
    case atStart => exact ⟨0, n, Nat.zero_le _, rfl, rfl, by omega, fun r hr => by omega⟩
    case round =>
      obtain ⟨k, s, hk, rfl, rfl, hs, hall⟩ := hrel
      by_cases hlt : k < n
      · obtain ⟨b, off, rfl, hc⟩ := hr.pos hlt
        have hck := hc k hlt
        have hLk := hL k hlt
        clear hc hr hL
        by_cases h2 : 1048576 < L k
        · clear hall
          go_wp2
          go_ret
          exact ⟨false, rfl, rfl, fun h => by cases h⟩
        · have HA : Hid (∀ r, r < k → L r ≤ 1048576) := hall
          clear hall
          by_cases h3 : 1048576 < s + L k
          · go_wp2
            go_ret
            exact ⟨false, rfl, rfl, fun h => by cases h⟩
          · go_wp2
            go_round
            case rel =>
              exact ⟨k + 1, s + L k, by omega, by go_num, by go_num, by omega, fun r hr => by
                by_cases e : r = k
                · subst e; omega
                · exact HA.out r (by omega)⟩
            case measure => simp [intOf]; omega
      · have HA : Hid (∀ r, r < k → L r ≤ 1048576) := hall
        clear hall hr hL
        go_wp2
        go_ret
        exact ⟨true, rfl, rfl, fun _ => ⟨by omega, fun r hr => HA.out r (by omega)⟩⟩

set_option maxHeartbeats 400000 in
theorem fit9 (ao : Option Addr) (n cap : Nat) (A : Nat → Option Addr) (L C : Nat → Nat) (w : World) (hn : n ≤ 1048576) (hr : CellsAt w ao n (fun r => .slice (A r) (L r) (C r))) (hL : ∀ r, r < n → L r ≤ 1048576) :
    Calls Try.prog 9 #[.slice ao n cap] w (FitsPost w (n ≤ 65536 ∧ 24 * n + psum L n ≤ 1048576)) := by
  by_cases h1 : 65536 < n
  · go_enter Try.func9, Try.ntmps9
    go_wp2
    go_ret
    exact ⟨false, rfl, rfl, fun h => by cases h⟩
  by_cases h2 : 1048576 < 24 * n
  · go_enter Try.func9, Try.ntmps9
    go_wp2
    go_ret
    exact ⟨false, rfl, rfl, fun h => by cases h⟩
  · go_enter Try.func9, Try.ntmps9
    go_wp2
    go_loop [3, 4] (fun t i => ∃ (k : Nat) (s : Nat), k ≤ n ∧ i = .int .i64 k ∧ t = .int .i64 s ∧ s ≤ 1048576 ∧ Hid (s = 24 * n + psum L k)) (fun _ i => n - (intOf i).toNat)
    case atStart => exact ⟨0, 24 * n, Nat.zero_le _, rfl, by go_num, by omega, (by show 24 * n = 24 * n + 0; omega)⟩
    case round =>
      obtain ⟨k, s, hk, rfl, rfl, hs, HA⟩ := hrel
      by_cases hlt : k < n
      · obtain ⟨b, off, rfl, hc⟩ := hr.pos hlt
        have hck := hc k hlt
        have hLk := hL k hlt
        clear hc hr hL
        by_cases h3 : 1048576 < s + L k
        · go_wp2
          go_ret
          exact ⟨false, rfl, rfl, fun h => by cases h⟩
        · go_wp2
          go_round
          case rel =>
            exact ⟨k + 1, s + L k, by omega, by go_num, by go_num, by omega, (by have := HA.out; show s + L k = 24 * n + (psum L k + L k); omega)⟩
          case measure => simp [intOf]; omega
      · clear hr hL
        go_wp2
        go_ret
        exact ⟨true, rfl, rfl, fun _ => ⟨by omega, by have := HA.out; have e : k = n := by omega
                                                      subst e; omega⟩⟩

/-- Two slices of the same bytes are the same. -/
theorem same12 (a1 a2 : Option Addr) (n c1 c2 : Nat) (Z : Nat → Int) (w : World) (hn : n ≤ 1048576) (h1 : CellsAt w a1 n (fun r => .int .u8 (Z r))) (h2 : CellsAt w a2 n (fun r => .int .u8 (Z r))) :
    Calls Try.prog 12 #[.slice a1 n c1, .slice a2 n c2] w fun e w' => e = .returned (.bool true) ∧ ∃ m, w' = w.drewN m := by
  go_enter Try.func12, Try.ntmps12
  go_wp2
  go_loopw [5] (fun i wr => ∃ k : Nat, k ≤ n ∧ i = .int .i64 k ∧ ∃ m, wr = w.drewN m) (fun i _ => n - (intOf i).toNat)
  case atStart => exact ⟨0, Nat.zero_le _, rfl, 0, rfl⟩
  case round =>
    obtain ⟨k, hk, rfl, m, rfl⟩ := hrel
    by_cases hlt : k < n
    · obtain ⟨b, off, rfl, hc⟩ := h1.pos hlt
      obtain ⟨b', off', rfl, hc'⟩ := h2.pos hlt
      have g1 := hc k hlt
      have g2 := hc' k hlt
      clear hc hc' h1 h2
      have i1 : (k : Int) < (n : Int) := by omega
      go_wp2
      go_quiet (fail)
      go_wp2
      go_roundw
      case rel => exact ⟨k + 1, by omega, by go_num, _, rfl⟩
      case measure => simp [intOf]; omega
    · clear h1 h2
      go_wp2
      go_ret
      exact ⟨rfl, m, rfl⟩

end Go.Proofs.Qxb6603185a
