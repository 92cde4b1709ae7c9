/-
  zzCopyInts, zzCopyWords: a slice of integers copied.
-/
import Derived.Test.Qxb6603185aBase
namespace Go.Proofs.Qxb6603185a
open Go.RowKit

theorem info3 : (Try.prog.info? 3).map (fun i => (i.zero, i.size, i.bytes)) = some (some (.int .i64 0), 1, 8) := by kernel_rfl
theorem info35' : (Try.prog.info? 35).map (fun i => (i.zero, i.size, i.bytes)) = some (some (.int .u64 0), 1, 8) := by kernel_rfl

/-- The copy is nil just where the slice was; else it lies in a new block. -/
def RowPost (k : IntKind) (t : TypeId) (w : World) (n : Nat) (Z : Nat → Int) (e : Ending) (w' : World) : Prop :=
  ∃ ao : Option Addr, e = .returned (.slice ao n n) ∧ Below w.heap.size w w' ∧ ((ao = none ∧ n = 0) ∨ (ao = some ⟨w.heap.size, 0, none⟩ ∧ w'.rowIs w.heap.size t n (fun j => .int k (Z j))))

theorem cells_of_row {k : IntKind} {t : TypeId} {w' : World} {b n : Nat} {Z : Nat → Int} {ao : Option Addr} (h : (ao = none ∧ n = 0) ∨ (ao = some ⟨b, 0, none⟩ ∧ w'.rowIs b t n (fun j => .int k (Z j)))) : CellsAt w' ao n (fun j => .int k (Z j)) := by
  rcases h with ⟨_, h⟩ | ⟨h1, h2⟩
  · exact .inl h
  · exact .inr ⟨_, 0, h1, fun r hr => by simpa using h2.cell hr⟩

set_option maxHeartbeats 400000 in
theorem copy14 (ao : Option Addr) (n cap : Nat) (Z : Nat → Int) (w : World) (hn : n ≤ 1048576) (h0 : ao = none → n = 0) (hr : CellsAt w ao n (fun j => .int .i64 (Z j))) :
    Calls Try.prog 14 #[.slice ao n cap] w (RowPost .i64 3 w n Z) := by
  have q := fun w a n c n1 c1 => Lib.run_eql_slice_nil (P := Try.prog) w 27 3 a n c n1 c1 Try.underlying27
  cases ao with
  | none =>
    have hn0 : n = 0 := h0 rfl
    subst hn0
    go_enter Try.func14, Try.ntmps14
    go_wp2
    go_ret
    exact ⟨none, rfl, Below.refl _ _, .inl ⟨rfl, rfl⟩⟩
  | some ad =>
    have hmk := run_make_row' (P := Try.prog) 27 3 (.int .i64 0) 8 Try.underlying27 info3 rfl .i64 .i64 n (by omega) (by omega)
    clear h0
    go_enter Try.func14, Try.ntmps14
    go_wp2
    clear hmk
    go_loopw [4] (fun i wr => ∃ k : Nat, k ≤ n ∧ i = .int .i64 k ∧ Below w.heap.size w wr ∧ wr.rowIs w.heap.size 3 n (fun j => if j < k then .int .i64 (Z j) else .int .i64 0)) (fun i _ => n - (intOf i).toNat)
    case atStart => exact ⟨0, Nat.zero_le _, rfl, (Below.refl _ _).alloc (Nat.le_refl _) _, (World.rowIs_made w (.int .i64 0) n 3).congr (fun j _ => by simp)⟩
    case round =>
      obtain ⟨k, hk, rfl, hb, hR⟩ := hrel
      by_cases hlt : k < n
      · obtain ⟨b, off, hao, hc⟩ := hr.pos hlt
        obtain rfl : ad = ⟨b, off, none⟩ := by simpa using hao
        have g0 := hc k hlt
        have hbl : b < w.heap.size := World.block_lt_of_cell? _ _ g0
        have g1 : wr.cell? ⟨b, off + k, none⟩ = some (.int .i64 (Z k)) := (hb.cell (p := ⟨b, off + k, none⟩) hbl).trans g0
        have g2 := hR.cell hlt
        simp only [Nat.lt_irrefl, if_false] at g2
        have g3 := hR.frozen k
        have B1 : Hid (Below w.heap.size w (wr.setCell ⟨w.heap.size, k, none⟩ (.int .i64 (Z k)))) := hb.setCell (Nat.le_refl _) _
        have R1 : Hid ((wr.setCell ⟨w.heap.size, k, none⟩ (.int .i64 (Z k))).rowIs w.heap.size 3 n (fun j => if j < k + 1 then .int .i64 (Z j) else .int .i64 0)) := by
          refine (hR.set k (.int .i64 (Z k))).congr (fun j _ => ?_)
          by_cases e : j = k
          · subst e; simp
          · simp only [e, if_false]
            by_cases hl : j < k
            · rw [if_pos hl, if_pos (by omega)]
            · rw [if_neg hl, if_neg (by omega)]
        clear hb hR g0 hc hao hr
        go_wp2
        go_roundw
        case rel => exact ⟨k + 1, by omega, by go_num, B1.out, R1.out⟩
        case measure => simp [intOf]; omega
      · have e : k = n := by omega
        subst e
        have R1 : Hid (wr.rowIs w.heap.size 3 k (fun j => .int .i64 (Z j))) := hR.congr (fun j hj => by rw [if_pos hj])
        have B1 : Hid (Below w.heap.size w wr) := hb
        clear hb hR hr
        go_wp2
        go_ret
        exact ⟨_, rfl, B1.out, .inr ⟨rfl, R1.out⟩⟩

set_option maxHeartbeats 400000 in
theorem copy15 (ao : Option Addr) (n cap : Nat) (Z : Nat → Int) (w : World) (hn : n ≤ 1048576) (h0 : ao = none → n = 0) (hr : CellsAt w ao n (fun j => .int .u64 (Z j))) :
    Calls Try.prog 15 #[.slice ao n cap] w (RowPost .u64 35 w n Z) := by
  have q := fun w a n c n1 c1 => Lib.run_eql_slice_nil (P := Try.prog) w 28 35 a n c n1 c1 Try.underlying28
  cases ao with
  | none =>
    have hn0 : n = 0 := h0 rfl
    subst hn0
    go_enter Try.func15, Try.ntmps15
    go_wp2
    go_ret
    exact ⟨none, rfl, Below.refl _ _, .inl ⟨rfl, rfl⟩⟩
  | some ad =>
    have hmk := run_make_row' (P := Try.prog) 28 35 (.int .u64 0) 8 Try.underlying28 info35' rfl .i64 .i64 n (by omega) (by omega)
    clear h0
    go_enter Try.func15, Try.ntmps15
    go_wp2
    clear hmk
    go_loopw [4] (fun i wr => ∃ k : Nat, k ≤ n ∧ i = .int .i64 k ∧ Below w.heap.size w wr ∧ wr.rowIs w.heap.size 35 n (fun j => if j < k then .int .u64 (Z j) else .int .u64 0)) (fun i _ => n - (intOf i).toNat)
    case atStart => exact ⟨0, Nat.zero_le _, rfl, (Below.refl _ _).alloc (Nat.le_refl _) _, (World.rowIs_made w (.int .u64 0) n 35).congr (fun j _ => by simp)⟩
    case round =>
      obtain ⟨k, hk, rfl, hb, hR⟩ := hrel
      by_cases hlt : k < n
      · obtain ⟨b, off, hao, hc⟩ := hr.pos hlt
        obtain rfl : ad = ⟨b, off, none⟩ := by simpa using hao
        have g0 := hc k hlt
        have hbl : b < w.heap.size := World.block_lt_of_cell? _ _ g0
        have g1 : wr.cell? ⟨b, off + k, none⟩ = some (.int .u64 (Z k)) := (hb.cell (p := ⟨b, off + k, none⟩) hbl).trans g0
        have g2 := hR.cell hlt
        simp only [Nat.lt_irrefl, if_false] at g2
        have g3 := hR.frozen k
        have B1 : Hid (Below w.heap.size w (wr.setCell ⟨w.heap.size, k, none⟩ (.int .u64 (Z k)))) := hb.setCell (Nat.le_refl _) _
        have R1 : Hid ((wr.setCell ⟨w.heap.size, k, none⟩ (.int .u64 (Z k))).rowIs w.heap.size 35 n (fun j => if j < k + 1 then .int .u64 (Z j) else .int .u64 0)) := by
          refine (hR.set k (.int .u64 (Z k))).congr (fun j _ => ?_)
          by_cases e : j = k
          · subst e; simp
          · simp only [e, if_false]
            by_cases hl : j < k
            · rw [if_pos hl, if_pos (by omega)]
            · rw [if_neg hl, if_neg (by omega)]
        clear hb hR g0 hc hao hr
        go_wp2
        go_roundw
        case rel => exact ⟨k + 1, by omega, by go_num, B1.out, R1.out⟩
        case measure => simp [intOf]; omega
      · have e : k = n := by omega
        subst e
        have R1 : Hid (wr.rowIs w.heap.size 35 k (fun j => .int .u64 (Z j))) := hR.congr (fun j hj => by rw [if_pos hj])
        have B1 : Hid (Below w.heap.size w wr) := hb
        clear hb hR hr
        go_wp2
        go_ret
        exact ⟨_, rfl, B1.out, .inr ⟨rfl, R1.out⟩⟩

end Go.Proofs.Qxb6603185a
