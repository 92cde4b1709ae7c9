/-
  zzCopyVotes: rows of five cells.
-/
import Derived.Test.Qxb6603185aTable
import Derived.Lib.SmallJoins
namespace Go.Proofs.Qxb6603185a
open Go.RowKit

theorem info49 : (Try.prog.info? 49).map (fun i => (i.zero, i.size, i.bytes)) = some (some (.agg #[.int .u64 0, .int .i64 0, .int .u64 0, .int .u64 0, .int .i64 0]), 5, 40) := by kernel_rfl

/-- 'make([]ZVote, n)'. -/
theorem run_make_votes (n : Nat) (hn : n ≤ 1048576) (w : World) :
    (Instr.makeSlice 46 (.int .i64 (n : Int)) (.int .i64 (n : Int))).run Try.prog w = .ok (.slice (some ⟨w.heap.size, 0, none⟩) n n) (w.alloc (.cells (madeCells #[.int .u64 0, .int .i64 0, .int .u64 0, .int .u64 0, .int .i64 0] (n * 5)) 49)) := by
  obtain ⟨i, hi, hz, hs, hb⟩ := info_parts info49
  have hr := run_make (P := Try.prog) w 46 49 i _ Try.underlying46 hi hz .i64 .i64 n n (by omega) (by omega) (by rw [hb]; omega) (by omega)
  simp only [Int.toNat_natCast, hs] at hr
  exact hr

/-- A script of votes, plain. -/
structure Script where
  T : Nat → Int
  S : Nat → Int
  Q : Nat → Int
  E : Nat → Int
  V : Nat → Int

/-- The five cells of vote r, from offset o on. -/
def Five (w : World) (b o : Nat) (z : Script) (r : Nat) : Prop :=
  w.cell? ⟨b, o, none⟩ = some (.int .u64 (z.T r)) ∧ w.cell? ⟨b, o + 1, none⟩ = some (.int .i64 (z.S r)) ∧ w.cell? ⟨b, o + 2, none⟩ = some (.int .u64 (z.Q r)) ∧
    w.cell? ⟨b, o + 3, none⟩ = some (.int .u64 (z.E r)) ∧ w.cell? ⟨b, o + 4, none⟩ = some (.int .i64 (z.V r))

theorem Five.lt {w : World} {b o r : Nat} {z : Script} (h : Five w b o z r) : b < w.heap.size := World.block_lt_of_cell? _ _ h.1

theorem Five.below {w w' : World} {b o r B : Nat} {z : Script} (h : Five w b o z r) (hb : Below B w w') (hB : b < B) : Five w' b o z r :=
  ⟨(hb.cell (p := ⟨b, o, none⟩) hB).trans h.1, (hb.cell (p := ⟨b, o + 1, none⟩) hB).trans h.2.1, (hb.cell (p := ⟨b, o + 2, none⟩) hB).trans h.2.2.1,
    (hb.cell (p := ⟨b, o + 3, none⟩) hB).trans h.2.2.2.1, (hb.cell (p := ⟨b, o + 4, none⟩) hB).trans h.2.2.2.2⟩

/-- n votes behind an address. -/
def VotesAt (w : World) (ao : Option Addr) (n : Nat) (z : Script) : Prop := n = 0 ∨ ∃ b off, ao = some ⟨b, off, none⟩ ∧ ∀ r, r < n → Five w b (off + r * 5) z r

theorem VotesAt.pos {w : World} {ao : Option Addr} {n : Nat} {z : Script} (h : VotesAt w ao n z) {k : Nat} (hk : k < n) : ∃ b off, ao = some ⟨b, off, none⟩ ∧ ∀ r, r < n → Five w b (off + r * 5) z r := by
  rcases h with h | h
  · omega
  · exact h

/-- A new block of n votes, k of them laid. -/
def VRow (w : World) (b n k : Nat) (z : Script) : Prop :=
  ∃ c : Array Value, w.heap[b]? = some (.cells c 49 (0, 0)) ∧ c.size = n * 5 ∧ ∀ r, r < k → c[r * 5]? = some (.int .u64 (z.T r)) ∧ c[r * 5 + 1]? = some (.int .i64 (z.S r)) ∧ c[r * 5 + 2]? = some (.int .u64 (z.Q r)) ∧ c[r * 5 + 3]? = some (.int .u64 (z.E r)) ∧ c[r * 5 + 4]? = some (.int .i64 (z.V r))

theorem vrow_start (w : World) (n : Nat) (z : Script) : VRow (w.alloc (.cells (madeCells #[.int .u64 0, .int .i64 0, .int .u64 0, .int .u64 0, .int .i64 0] (n * 5)) 49)) w.heap.size n 0 z :=
  ⟨madeCells #[.int .u64 0, .int .i64 0, .int .u64 0, .int .u64 0, .int .i64 0] (n * 5), (by show (w.heap.push _)[w.heap.size]? = _; simp), size_madeCells _ _, fun r hr => absurd hr (Nat.not_lt_zero _)⟩

theorem VRow.isSome {w : World} {b n k : Nat} {z : Script} (h : VRow w b n k z) {i : Nat} (hi : i < n * 5) : ∃ v, w.cell? ⟨b, i, none⟩ = some v := by
  obtain ⟨c, h1, h2, _⟩ := h
  exact ⟨c[i]'(by omega), by simp [World.cell?, h1, show i < c.size by omega]⟩
theorem VRow.frozen {w : World} {b n k : Nat} {z : Script} (h : VRow w b n k z) (i : Nat) : w.frozen? ⟨b, i, none⟩ = false := by
  obtain ⟨c, h1, _⟩ := h
  simp [World.frozen?, h1]
theorem VRow.five {w : World} {b n k : Nat} {z : Script} (h : VRow w b n k z) {r : Nat} (hr : r < k) : Five w b (0 + r * 5) z r := by
  obtain ⟨c, h1, _, h3⟩ := h
  obtain ⟨a0, a1, a2, a3, a4⟩ := h3 r hr
  rw [Nat.zero_add]
  exact ⟨by simp [World.cell?, h1, a0], by simp [World.cell?, h1, a1], by simp [World.cell?, h1, a2], by simp [World.cell?, h1, a3], by simp [World.cell?, h1, a4]⟩

theorem VRow.put {w : World} {b n k : Nat} {z : Script} (h : VRow w b n k z) (hk : k < n) :
    VRow (((((w.setCell ⟨b, k * 5, none⟩ (.int .u64 (z.T k))).setCell ⟨b, k * 5 + 1, none⟩ (.int .i64 (z.S k))).setCell ⟨b, k * 5 + 2, none⟩ (.int .u64 (z.Q k))).setCell ⟨b, k * 5 + 3, none⟩ (.int .u64 (z.E k))).setCell ⟨b, k * 5 + 4, none⟩ (.int .i64 (z.V k))) b n (k + 1) z := by
  obtain ⟨c, h1, h2, h3⟩ := h
  refine ⟨_, Joins.block_setCell (Joins.block_setCell (Joins.block_setCell (Joins.block_setCell (Joins.block_setCell h1 _) _) _) _) _, by simp [h2], fun r hr => ?_⟩
  simp only [Array.getElem?_setIfInBounds, Array.size_setIfInBounds, h2]
  by_cases e : r = k
  · subst e
    refine ⟨?_, ?_, ?_, ?_, ?_⟩
    · rw [if_neg (by omega), if_neg (by omega), if_neg (by omega), if_neg (by omega), if_pos rfl, if_pos (by omega)]
    · rw [if_neg (by omega), if_neg (by omega), if_neg (by omega), if_pos rfl, if_pos (by omega)]
    · rw [if_neg (by omega), if_neg (by omega), if_pos rfl, if_pos (by omega)]
    · rw [if_neg (by omega), if_pos rfl, if_pos (by omega)]
    · rw [if_pos rfl, if_pos (by omega)]
  · obtain ⟨a0, a1, a2, a3, a4⟩ := h3 r (by omega)
    refine ⟨?_, ?_, ?_, ?_, ?_⟩
    · rw [if_neg (by omega), if_neg (by omega), if_neg (by omega), if_neg (by omega), if_neg (by omega)]; exact a0
    · rw [if_neg (by omega), if_neg (by omega), if_neg (by omega), if_neg (by omega), if_neg (by omega)]; exact a1
    · rw [if_neg (by omega), if_neg (by omega), if_neg (by omega), if_neg (by omega), if_neg (by omega)]; exact a2
    · rw [if_neg (by omega), if_neg (by omega), if_neg (by omega), if_neg (by omega), if_neg (by omega)]; exact a3
    · rw [if_neg (by omega), if_neg (by omega), if_neg (by omega), if_neg (by omega), if_neg (by omega)]; exact a4

/-- The copy of the votes: in memory of the call's own. -/
def VCopyPost (w : World) (n : Nat) (z : Script) (e : Ending) (w' : World) : Prop :=
  ∃ ao : Option Addr, e = .returned (.slice ao n n) ∧ Below w.heap.size w w' ∧ VotesAt w' ao n z

set_option maxHeartbeats 400000 in
theorem copy24 (ao : Option Addr) (n cap : Nat) (z : Script) (w : World) (hn : n ≤ 1048576) (h0 : ao = none → n = 0) (hr : VotesAt w ao n z) :
    Calls Try.prog 24 #[.slice ao n cap] w (VCopyPost w n z) := by
  have q := fun w a n c n1 c1 => Lib.run_eql_slice_nil (P := Try.prog) w 46 49 a n c n1 c1 Try.underlying46
  cases ao with
  | none =>
    have hn0 : n = 0 := h0 rfl
    subst hn0
    clear hr
    go_enter Try.func24, Try.ntmps24
    go_wp2
    go_ret
    exact ⟨none, rfl, Below.refl _ _, .inl rfl⟩
  | some ad =>
    have hmk := run_make_votes n hn
    clear h0
    have HR := hid hr
    clear hr
    go_enter Try.func24, Try.ntmps24
    go_wp2
    clear hmk
    go_loopw [4] (fun i wr => ∃ k : Nat, k ≤ n ∧ i = .int .i64 k ∧ Hid (Below w.heap.size w wr) ∧ Hid (VRow wr w.heap.size n k z)) (fun i _ => n - (intOf i).toNat)
    case atStart => exact ⟨0, Nat.zero_le _, rfl, (Below.refl _ _).alloc (Nat.le_refl _) _, vrow_start w n z⟩
    case round =>
      obtain ⟨k, hk, rfl, HB, HV⟩ := hrel
      by_cases hlt : k < n
      · obtain ⟨b, off, hao, h5⟩ := HR.out.pos hlt
        cases hao
        obtain ⟨g0, g1, g2, g3, g4⟩ := (h5 k hlt).below HB.out (h5 k hlt).lt
        obtain ⟨v0, s0⟩ := HV.out.isSome (i := k * 5) (by omega)
        obtain ⟨v1, s1⟩ := HV.out.isSome (i := k * 5 + 1) (by omega)
        obtain ⟨v2, s2⟩ := HV.out.isSome (i := k * 5 + 2) (by omega)
        obtain ⟨v3, s3⟩ := HV.out.isSome (i := k * 5 + 3) (by omega)
        obtain ⟨v4, s4⟩ := HV.out.isSome (i := k * 5 + 4) (by omega)
        have f0 := HV.out.frozen (k * 5)
        have f1 := HV.out.frozen (k * 5 + 1)
        have f2 := HV.out.frozen (k * 5 + 2)
        have f3 := HV.out.frozen (k * 5 + 3)
        have f4 := HV.out.frozen (k * 5 + 4)
        have HV1 := hid (HV.out.put hlt)
        have HB1 := hid (((((HB.out.setCell (p := ⟨w.heap.size, k * 5, none⟩) (Nat.le_refl _) (.int .u64 (z.T k))).setCell (p := ⟨w.heap.size, k * 5 + 1, none⟩) (Nat.le_refl _) (.int .i64 (z.S k))).setCell (p := ⟨w.heap.size, k * 5 + 2, none⟩) (Nat.le_refl _) (.int .u64 (z.Q k))).setCell (p := ⟨w.heap.size, k * 5 + 3, none⟩) (Nat.le_refl _) (.int .u64 (z.E k))).setCell (p := ⟨w.heap.size, k * 5 + 4, none⟩) (Nat.le_refl _) (.int .i64 (z.V k)))
        clear HV HB h5 HR
        go_wp2
        go_roundw
        case rel => exact ⟨k + 1, by omega, by go_num, HB1, HV1⟩
        case measure => simp [intOf]; omega
      · have e : k = n := by omega
        subst e
        clear HR
        go_wp2
        go_ret
        exact ⟨_, rfl, HB.out, .inr ⟨_, 0, rfl, fun r hr => HV.out.five hr⟩⟩

theorem bytes23 (ao : Option Addr) (n cap : Nat) (w : World) (hn : n ≤ maxLen) : Calls Try.prog 23 #[.slice ao n cap] w (FitsPost w (n ≤ 1048576)) := by
  unfold maxLen at hn
  by_cases h1 : 1048576 < n
  · go_enter Try.func23, Try.ntmps23
    go_wp2
    go_ret
    exact ⟨false, rfl, rfl, fun h => by cases h⟩
  · go_enter Try.func23, Try.ntmps23
    go_wp2
    go_ret
    exact ⟨true, rfl, rfl, fun _ => by omega⟩

end Go.Proofs.Qxb6603185a
