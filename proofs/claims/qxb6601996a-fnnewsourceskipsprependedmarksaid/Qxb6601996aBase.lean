/-
  The walks of the copies, the comparisons and newSource.
-/
import Derived.Test.Qxb6601996aRows
import Derived.WalkKit
import Derived.WalkSpells
import Derived.WalkLawsBesides
import Derived.Deep.QuietTactic
import Derived.BigQuiet
import Derived.Deep.OwnRows
import Derived.Deep.LoopGhost
import Derived.Laws.BytesArg
import Derived.Lib.SlBytesConst
import Derived.Lib.SmallJoins
namespace Go.Proofs.Qxb6601996a
open Go.RowKit

theorem hid {p : Prop} (h : p) : Hid p := h

/-- n cells lie behind the address, cell r holding V r (nothing is said of the address where n is nought). -/
def CellsAt (w : World) (ao : Option Addr) (n : Nat) (V : Nat → Value) : Prop :=
  n = 0 ∨ ∃ b off, ao = some ⟨b, off, none⟩ ∧ ∀ r, r < n → w.cell? ⟨b, off + r, none⟩ = some (V r)

theorem CellsAt.pos {w : World} {ao : Option Addr} {n : Nat} {V : Nat → Value} (h : CellsAt w ao n V) {k : Nat} (hk : k < n) :
    ∃ b off, ao = some ⟨b, off, none⟩ ∧ ∀ r, r < n → w.cell? ⟨b, off + r, none⟩ = some (V r) := by
  rcases h with h | h
  · omega
  · exact h

theorem info5 : (Try.prog.info? 5).map (fun i => (i.zero, i.size, i.bytes)) = some (some (.int .u8 0), 1, 1) := by kernel_rfl

/-- Two slices of the same bytes are the same. -/
theorem same10 (a1 a2 : Option Addr) (n c1 c2 : Nat) (Z : Nat → Int) (w : World) (hn : n ≤ 1048576) (h1 : CellsAt w a1 n (fun r => .int .u8 (Z r))) (h2 : CellsAt w a2 n (fun r => .int .u8 (Z r))) :
    Calls Try.prog 10 #[.slice a1 n c1, .slice a2 n c2] w fun e w' => e = .returned (.bool true) ∧ ∃ m, w' = w.drewN m := by
  go_enter Try.func10, Try.ntmps10
  go_wp2
  go_loopw [5] (fun i wr => ∃ k : Nat, k ≤ n ∧ i = .int .i64 k ∧ ∃ m, wr = w.drewN m) (fun i _ => n - (intOf i).toNat)
  case atStart => exact ⟨0, Nat.zero_le _, rfl, 0, rfl⟩
  case round =>
    obtain ⟨k, hk, rfl, m, rfl⟩ := hrel
    by_cases hlt : k < n
    · obtain ⟨b, off, rfl, hc⟩ := h1.pos hlt
      obtain ⟨b', off', rfl, hc'⟩ := h2.pos hlt
      have g1 := hc k hlt
      have g2 := hc' k hlt
      clear hc hc' h1 h2
      have i1 : (k : Int) < (n : Int) := by omega
      go_wp2
      go_quiet (fail)
      go_wp2
      go_roundw
      case rel => exact ⟨k + 1, by omega, by go_num, _, rfl⟩
      case measure => simp [intOf]; omega
    · clear h1 h2
      go_wp2
      go_ret
      exact ⟨rfl, m, rfl⟩

/-- The copy is nil just where the slice was; else it lies in a new block. -/
def RowPost (w : World) (n : Nat) (Z : Nat → Int) (e : Ending) (w' : World) : Prop :=
  ∃ ao : Option Addr, e = .returned (.slice ao n n) ∧ Below w.heap.size w w' ∧ CellsAt w' ao n (fun j => .int .u8 (Z j))

set_option maxHeartbeats 400000 in
theorem clone7 (ao : Option Addr) (n cap : Nat) (Z : Nat → Int) (w : World) (hn : n ≤ 1048576) (h0 : ao = none → n = 0) (hr : CellsAt w ao n (fun j => .int .u8 (Z j))) :
    Calls Try.prog 7 #[.slice ao n cap] w (RowPost w n Z) := by
  have q := fun w a n c n1 c1 => Lib.run_eql_slice_nil (P := Try.prog) w 22 5 a n c n1 c1 Try.underlying22
  cases ao with
  | none =>
    have hn0 : n = 0 := h0 rfl
    subst hn0
    go_enter Try.func7, Try.ntmps7
    go_wp2
    go_ret
    exact ⟨none, rfl, Below.refl _ _, .inl rfl⟩
  | some ad =>
    have hmk := run_make_row' (P := Try.prog) 22 5 (.int .u8 0) 1 Try.underlying22 info5 rfl .i64 .i64 n (by omega) (by omega)
    clear h0
    go_enter Try.func7, Try.ntmps7
    go_wp2
    clear hmk
    go_loopw [4] (fun i wr => ∃ k : Nat, k ≤ n ∧ i = .int .i64 k ∧ Below w.heap.size w wr ∧ wr.rowIs w.heap.size 5 n (fun j => if j < k then .int .u8 (Z j) else .int .u8 0)) (fun i _ => n - (intOf i).toNat)
    case atStart => exact ⟨0, Nat.zero_le _, rfl, (Below.refl _ _).alloc (Nat.le_refl _) _, (World.rowIs_made w (.int .u8 0) n 5).congr (fun j _ => by simp)⟩
    case round =>
      obtain ⟨k, hk, rfl, hb, hR⟩ := hrel
      by_cases hlt : k < n
      · obtain ⟨b, off, hao, hc⟩ := hr.pos hlt
        obtain rfl : ad = ⟨b, off, none⟩ := by simpa using hao
        have g0 := hc k hlt
        have hbl : b < w.heap.size := World.block_lt_of_cell? _ _ g0
        have g1 : wr.cell? ⟨b, off + k, none⟩ = some (.int .u8 (Z k)) := (hb.cell (p := ⟨b, off + k, none⟩) hbl).trans g0
        have g2 := hR.cell hlt
        simp only [Nat.lt_irrefl, if_false] at g2
        have g3 := hR.frozen k
        have B1 : Hid (Below w.heap.size w (wr.setCell ⟨w.heap.size, k, none⟩ (.int .u8 (Z k)))) := hb.setCell (Nat.le_refl _) _
        have R1 : Hid ((wr.setCell ⟨w.heap.size, k, none⟩ (.int .u8 (Z k))).rowIs w.heap.size 5 n (fun j => if j < k + 1 then .int .u8 (Z j) else .int .u8 0)) := by
          refine (hR.set k (.int .u8 (Z k))).congr (fun j _ => ?_)
          by_cases e : j = k
          · subst e; simp
          · simp only [e, if_false]
            by_cases hl : j < k
            · rw [if_pos hl, if_pos (by omega)]
            · rw [if_neg hl, if_neg (by omega)]
        clear hb hR g0 hc hao hr
        go_wp2
        go_roundw
        case rel => exact ⟨k + 1, by omega, by go_num, B1.out, R1.out⟩
        case measure => simp [intOf]; omega
      · have e : k = n := by omega
        subst e
        have R1 : Hid (wr.rowIs w.heap.size 5 k (fun j => .int .u8 (Z j))) := hR.congr (fun j hj => by rw [if_pos hj])
        have B1 : Hid (Below w.heap.size w wr) := hb
        clear hb hR hr
        go_wp2
        go_ret
        exact ⟨_, rfl, B1.out, .inr ⟨_, 0, rfl, fun r hr => by simpa using R1.out.cell hr⟩⟩

/-- The bound's check. -/
theorem bytes11 (ao : Option Addr) (n cap : Nat) (w : World) (hn : n ≤ maxLen) : Calls Try.prog 11 #[.slice ao n cap] w fun e w' => ∃ b, e = .returned (.bool b) ∧ w' = w ∧ b = decide (n ≤ 1048576) := by
  unfold maxLen at hn
  by_cases h1 : 1048576 < n
  · go_enter Try.func11, Try.ntmps11
    go_wp2
    go_ret
    exact ⟨false, rfl, rfl, by simp; omega⟩
  · go_enter Try.func11, Try.ntmps11
    go_wp2
    go_ret
    exact ⟨true, rfl, rfl, by simp; omega⟩

/-- bytes.Equal over two marks. -/
theorem equal18 (b o c b' o' c' : Nat) (w : World) (h1 : ∀ i, i < 3 → w.cell? ⟨b, o + i, none⟩ = some (.int .u8 (([239, 187, 191] : List Int).getD i 0))) (h2 : ∀ i, i < 3 → w.cell? ⟨b', o' + i, none⟩ = some (.int .u8 (([239, 187, 191] : List Int).getD i 0))) :
    Calls Try.prog 18 #[.slice (some ⟨b, o, none⟩) 3 c, .slice (some ⟨b', o', none⟩) 3 c'] w fun e w' => e = .returned (.bool true) ∧ w' = w := by
  have q1 := run_convert_bytes_arg (P := Try.prog) w 22 5 Try.underlying22 Try.underlying5 b o 3 c [239, 187, 191] rfl h1 9 Try.underlying9
  have q2 := run_convert_bytes_arg (P := Try.prog) w 22 5 Try.underlying22 Try.underlying5 b' o' 3 c' [239, 187, 191] rfl h2 9 Try.underlying9
  generalize strOfNums [239, 187, 191] = s at q1 q2
  clear h1 h2
  go_enter Try.func18, Try.ntmps18
  go_wp2
  go_ret
  exact ⟨rfl, rfl⟩

end Go.Proofs.Qxb6601996a
