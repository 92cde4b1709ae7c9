/-
  FnNewSourceSkipsPrependedMark: the walk.
-/
import Derived.Test.Qxb6601996aSource
namespace Go.Proofs.Qxb6601996a
open Go.RowKit

/-- The marked text's bytes, k of the text laid. -/
def uAt (Z : Nat → Int) (k j : Nat) : Value := if j = 0 then .int .u8 239 else if j = 1 then .int .u8 187 else if j = 2 then .int .u8 191 else if j < k + 3 then .int .u8 (Z (j - 3)) else .int .u8 0

theorem mark_row (Z : Nat → Int) (w1 : World) (C : Array Value) (n : Nat) (hCs : C.size = n + 3) (hCg : ∀ i, i < n + 3 → C[i]? = some (.int .u8 0)) :
    (w1.alloc (.cells (((C.setIfInBounds 0 (.int .u8 239)).setIfInBounds 1 (.int .u8 187)).setIfInBounds 2 (.int .u8 191)) 5)).rowIs w1.heap.size 5 (n + 3) (uAt Z 0) := by
  have h := World.rowIs_alloc w1 (((C.setIfInBounds 0 (.int .u8 239)).setIfInBounds 1 (.int .u8 187)).setIfInBounds 2 (.int .u8 191)) 5 (uAt Z 0) (by
    intro i hi
    simp only [Array.size_setIfInBounds, hCs] at hi
    simp only [Array.getElem?_setIfInBounds, Array.size_setIfInBounds, hCs, uAt, hCg i hi]
    by_cases e0 : i = 0
    · subst e0; simp
    by_cases e1 : i = 1
    · subst e1; simp
    by_cases e2 : i = 2
    · subst e2; simp
    rw [if_neg (Ne.symm e2), if_neg (Ne.symm e1), if_neg (Ne.symm e0), if_neg e0, if_neg e1, if_neg e2, if_neg (by omega)])
  simp only [Array.size_setIfInBounds, hCs] at h
  exact h

def LawPost (w : World) (e : Ending) (w' : World) : Prop := e = .returned (.bool true) ∧ Below w.heap.size w w'

set_option maxHeartbeats 400000 in
theorem law5 (ao : Option Addr) (n cap : Nat) (Z : Nat → Int) (w : World) (hn : n ≤ maxLen) (h0 : ao = none → n = 0) (hr : CellsAt w ao n (fun j => .int .u8 (Z j))) :
    Calls Try.prog 5 #[.slice ao n cap] w (LawPost w) := by
  have H11 := hid (bytes11 ao n cap w hn)
  unfold maxLen at hn
  by_cases h1 : 1048576 < n
  · have e : decide (n ≤ 1048576) = false := by simp; omega
    rw [e] at H11
    clear h0 hr
    go_enter Try.func5, Try.ntmps5
    go_wp2_with (go_at_call 11; refine H11.out.mono ?_; rintro e w' ⟨b, rfl, hw, rfl⟩; subst hw)
    go_ret
    exact ⟨rfl, Below.refl _ _⟩
  · have e : decide (n ≤ 1048576) = true := by simp; omega
    rw [e] at H11
    have H7 := hid (clone7 ao n cap Z w (by omega) h0 hr)
    have hmk : ∀ w : World, (Instr.makeSlice 22 (.int .i64 ((n : Int) + 3)) (.int .i64 ((n : Int) + 3))).run Try.prog w = .ok (.slice (some ⟨w.heap.size, 0, none⟩) (n + 3) (n + 3)) (w.alloc (.cells (madeCells #[.int .u8 0] (n + 3)) 5)) :=
      fun w => run_make_row' (P := Try.prog) 22 5 (.int .u8 0) 1 Try.underlying22 info5 rfl .i64 .i64 (n + 3) (by omega) (by omega) w
    have hCs : (madeCells #[.int .u8 0] (n + 3)).size = n + 3 := size_madeCells _ _
    have hCg : ∀ i, i < n + 3 → (madeCells #[.int .u8 0] (n + 3))[i]? = some (.int .u8 0) := fun i hi => by
      rw [← Array.getElem?_toList, toList_madeCells_one, List.getElem?_replicate, if_pos hi]
    generalize madeCells #[.int .u8 0] (n + 3) = C at *
    have g0 := hCg 0 (by omega)
    have g1 := hCg 1 (by omega)
    have g2 := hCg 2 (by omega)
    have HM := hid (fun (w1 : World) => mark_row Z w1 C n hCs hCg)
    clear h0 hr hCs hCg
    go_enter Try.func5, Try.ntmps5
    go_wp2_with fail
    refine H11.out.mono ?_
    rintro e w ⟨b, rfl, hw, rfl⟩
    subst hw
    clear H11
    go_wp2_with fail
    refine H7.out.mono ?_
    rintro e w1 ⟨a1, rfl, hB1, hc1⟩
    clear H7
    have hHM := HM.out w1
    have HM1 := hid hHM
    have HB1 := hid hB1
    have HC1 := hid hc1
    clear hB1 hc1 hHM HM
    go_wp2
    clear hmk g0 g1 g2
    go_loopw [4] (fun i wr => ∃ k : Nat, k ≤ n ∧ i = .int .i64 k ∧ Hid (Below w1.heap.size w1 wr) ∧ Hid (wr.rowIs w1.heap.size 5 (n + 3) (uAt Z k))) (fun i _ => n - (intOf i).toNat)
    case atStart => exact ⟨0, Nat.zero_le _, rfl, (Below.refl _ _).alloc (Nat.le_refl _) _, HM1.out⟩
    case round =>
      obtain ⟨k, hk, rfl, HB, HR⟩ := hrel
      clear HM1
      by_cases hlt : k < n
      · obtain ⟨b, off, rfl, hc⟩ := HC1.out.pos hlt
        have g0 := hc k hlt
        have hbl : b < w1.heap.size := World.block_lt_of_cell? _ _ g0
        have g1 : wr.cell? ⟨b, off + k, none⟩ = some (.int .u8 (Z k)) := (HB.out.cell (p := ⟨b, off + k, none⟩) hbl).trans g0
        have g2 : wr.cell? ⟨w1.heap.size, k + 3, none⟩ = some (.int .u8 0) := by
          rw [HR.out.cell (i := k + 3) (by omega)]
          simp [uAt]
        have g3 := HR.out.frozen (k + 3)
        have B1 := hid (HB.out.setCell (p := ⟨w1.heap.size, k + 3, none⟩) (Nat.le_refl _) (.int .u8 (Z k)))
        have R1 : Hid ((wr.setCell ⟨w1.heap.size, k + 3, none⟩ (.int .u8 (Z k))).rowIs w1.heap.size 5 (n + 3) (uAt Z (k + 1))) := by
          refine (HR.out.set (k + 3) (.int .u8 (Z k))).congr (fun j _ => ?_)
          unfold uAt
          by_cases e : j = k + 3
          · subst e; simp
          · simp only [e, if_false]
            by_cases hl : j < k + 3
            · rw [if_pos hl, if_pos (show j < k + 1 + 3 by omega)]
            · rw [if_neg hl, if_neg (show ¬ j < k + 1 + 3 by omega)]
        clear HB HR g0 hc
        go_wp2
        go_roundw
        case rel => exact ⟨k + 1, by omega, by go_num, B1, R1⟩
        case measure => simp [intOf]; omega
      · have e : k = n := by omega
        subst e
        have hM : MarkAt wr w1.heap.size 0 := by
          intro i hi
          rw [Nat.zero_add, HR.out.cell (i := i) (by omega)]
          rcases i with _ | _ | _ | i
          · rfl
          · rfl
          · rfl
          · omega
        have H12 := hid (znew12 w1.heap.size (k + 3) (k + 3) wr (by omega) (Nat.le_refl _) (by omega) hM)
        have H10 : Hid (∀ w2, Below wr.heap.size wr w2 → ∀ a2, (k = 0 ∨ a2 = some ⟨w1.heap.size, 3, none⟩) → Calls Try.prog 10 #[.slice a2 k k, .slice a1 k k] w2 fun e w' => e = .returned (.bool true) ∧ ∃ m, w' = w2.drewN m) := by
          refine hid (fun w2 hB2 a2 ha2 => ?_)
          have hu : ∀ r, r < k → w2.cell? ⟨w1.heap.size, 3 + r, none⟩ = some (.int .u8 (Z r)) := fun r hr => by
            have c0 := HR.out.cell (i := 3 + r) (by omega)
            rw [hB2.cell (p := ⟨w1.heap.size, 3 + r, none⟩) (World.block_lt_of_cell? _ _ c0), c0]
            unfold uAt
            rw [if_neg (by omega), if_neg (by omega), if_neg (by omega), if_pos (by omega), show 3 + r - 3 = r by omega]
          refine same10 _ _ _ _ _ Z w2 (by omega) ?_ ?_
          · rcases ha2 with h | h
            · exact .inl h
            · exact .inr ⟨_, _, h, hu⟩
          · rcases HC1.out with h | ⟨b, off, rfl, hc⟩
            · exact .inl h
            · refine .inr ⟨b, off, rfl, fun r hr => ?_⟩
              have c0 := hc r hr
              have c1 := (HB.out.cell (p := ⟨b, off + r, none⟩) (World.block_lt_of_cell? _ _ c0)).trans c0
              exact (hB2.cell (p := ⟨b, off + r, none⟩) (World.block_lt_of_cell? _ _ c1)).trans c1
        have HBw := hid (HB1.out.trans (HB.out.mono HB1.out.size))
        clear HB HR HC1 HB1 hM
        go_wp2_with (go_at_call 12; refine H12.out.mono ?_; rintro e w2 ⟨rfl, hB2⟩; have H10' := hid (H10.out w2 hB2); have HB2 := hid (HBw.out.trans (hB2.mono HBw.out.size)); clear H12 H10 HBw hB2)
        · obtain rfl : k = 0 := by assumption
          refine (H10'.out (some ⟨w1.heap.size, 0, none⟩) (.inl rfl)).mono ?_
          rintro e w3 ⟨rfl, m, rfl⟩
          clear H10'
          go_wp2
          go_ret
          exact ⟨rfl, below_drewN HB2.out m⟩
        · refine (H10'.out (some ⟨w1.heap.size, 3, none⟩) (.inr rfl)).mono ?_
          rintro e w3 ⟨rfl, m, rfl⟩
          clear H10'
          go_wp2
          go_ret
          exact ⟨rfl, below_drewN HB2.out m⟩

end Go.Proofs.Qxb6601996a
