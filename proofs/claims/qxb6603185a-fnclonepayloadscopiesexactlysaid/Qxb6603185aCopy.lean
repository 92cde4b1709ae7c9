/-
  zzCopyPayloads: a list of byte slices copied whole.
-/
import Derived.Test.Qxb6603185aBase
namespace Go.Proofs.Qxb6603185a
open Go.RowKit

theorem info5 : (Try.prog.info? 5).map (fun i => (i.zero, i.size, i.bytes)) = some (some (.int .u8 0), 1, 1) := by kernel_rfl
theorem info25 : (Try.prog.info? 25).map (fun i => (i.zero, i.size, i.bytes)) = some (some (.slice none 0 0), 1, 24) := by kernel_rfl

/-- What holds of the copies' memory, k rows done; the call's own blocks lie from N on. -/
structure CopyR (w wr : World) (n k hi : Nat) (L : Nat → Nat) (Z : Nat → Nat → Int) (A' : Nat → Option Addr) : Prop where
  below : Below w.heap.size w wr
  top : wr.rowIs w.heap.size 25 n (fun r => if r < k then .slice (A' r) (L r) (L r) else .slice none 0 0)
  hsz : hi ≤ wr.heap.size
  lo : w.heap.size < hi
  rows : ∀ r, r < k → (A' r = none ∧ L r = 0) ∨ ∃ g, A' r = some ⟨g, 0, none⟩ ∧ w.heap.size < g ∧ g < hi ∧ wr.rowIs g 5 (L r) (fun j => .int .u8 (Z r j))

theorem copy_start (w : World) (n : Nat) (L : Nat → Nat) (Z : Nat → Nat → Int) :
    CopyR w (w.alloc (.cells (madeCells #[.slice none 0 0] n) 25)) n 0 (w.alloc (.cells (madeCells #[.slice none 0 0] n) 25)).heap.size L Z (fun _ => none) :=
  ⟨(Below.refl _ _).alloc (Nat.le_refl _) _, (World.rowIs_made w _ n 25).congr (fun j _ => by simp), Nat.le_refl _, by simp, fun r hr => absurd hr (Nat.not_lt_zero _)⟩

theorem CopyR.alloc {w wr : World} {n k : Nat} {L : Nat → Nat} {Z : Nat → Nat → Int} {A' : Nat → Option Addr} (h : CopyR w wr n k wr.heap.size L Z A') (o : Obj) :
    CopyR w (wr.alloc o) n k wr.heap.size L Z A' :=
  ⟨h.below.alloc (Nat.le_of_lt h.lo) _, h.top.alloc _, by simp, h.lo, fun r hr => by
    rcases h.rows r hr with h1 | ⟨g, h1, h2, h3, h4⟩
    · exact .inl h1
    · exact .inr ⟨g, h1, h2, h3, h4.alloc _⟩⟩

theorem CopyR.setIn {w wr : World} {n k hi : Nat} {L : Nat → Nat} {Z : Nat → Nat → Int} {A' : Nat → Option Addr} (h : CopyR w wr n k hi L Z A') (j : Nat) (v : Value) :
    CopyR w (wr.setCell ⟨hi, j, none⟩ v) n k hi L Z A' :=
  ⟨h.below.setCell (Nat.le_of_lt h.lo) _, h.top.setOther (by have := h.lo; show w.heap.size ≠ hi; omega) _, by simpa using h.hsz, h.lo, fun r hr => by
    rcases h.rows r hr with h1 | ⟨g, h1, h2, h3, h4⟩
    · exact .inl h1
    · exact .inr ⟨g, h1, h2, h3, h4.setOther (by show g ≠ hi; omega) _⟩⟩

/-- A nil row: nothing is stored. -/
theorem CopyR.passed {w wr : World} {n k : Nat} {L : Nat → Nat} {Z : Nat → Nat → Int} {A' : Nat → Option Addr} (h : CopyR w wr n k wr.heap.size L Z A') (hL : L k = 0) :
    CopyR w wr n (k + 1) wr.heap.size L Z (fun r => if r = k then none else A' r) := by
  refine ⟨h.below, h.top.congr (fun r _ => ?_), h.hsz, h.lo, fun r hr => ?_⟩
  · by_cases e : r = k
    · subst e; simp [hL]
    · simp only [e, if_false]
      by_cases hlt : r < k
      · rw [if_pos hlt, if_pos (by omega)]
      · rw [if_neg hlt, if_neg (by omega)]
  · by_cases e : r = k
    · subst e; exact .inl ⟨by simp, hL⟩
    · simp only [e, if_false]
      exact h.rows r (by omega)

/-- The row is filled: it is stored. -/
theorem CopyR.stored {w wr : World} {n k hi : Nat} {L : Nat → Nat} {Z : Nat → Nat → Int} {A' : Nat → Option Addr} (h : CopyR w wr n k hi L Z A') (hr : wr.rowIs hi 5 (L k) (fun j => .int .u8 (Z k j))) :
    CopyR w (wr.setCell ⟨w.heap.size, k, none⟩ (.slice (some ⟨hi, 0, none⟩) (L k) (L k))) n (k + 1) (wr.setCell ⟨w.heap.size, k, none⟩ (.slice (some ⟨hi, 0, none⟩) (L k) (L k))).heap.size L Z (fun r => if r = k then some ⟨hi, 0, none⟩ else A' r) := by
  have hlo := h.lo
  have hlt := hr.lt
  refine ⟨h.below.setCell (Nat.le_refl _) _, (h.top.set k _).congr (fun r _ => ?_), Nat.le_refl _, by simp; omega, fun r hr' => ?_⟩
  · by_cases e : r = k
    · subst e; simp
    · simp only [e, if_false]
      by_cases hlt : r < k
      · rw [if_pos hlt, if_pos (by omega)]
      · rw [if_neg hlt, if_neg (by omega)]
  · by_cases e : r = k
    · subst e
      exact .inr ⟨hi, by simp, hlo, by simpa using hlt, hr.setOther (by show hi ≠ w.heap.size; omega) _⟩
    · simp only [e, if_false]
      rcases h.rows r (by omega) with h1 | ⟨g, h1, h2, h3, h4⟩
      · exact .inl h1
      · exact .inr ⟨g, h1, h2, by simp; omega, h4.setOther (by show g ≠ w.heap.size; omega) _⟩

/-- What the copy hands back: the same rows, in memory of the call's own. -/
def CopyPost (w : World) (n : Nat) (L : Nat → Nat) (Z : Nat → Nat → Int) (e : Ending) (w' : World) : Prop :=
  ∃ (ao : Option Addr) (A' : Nat → Option Addr), e = .returned (.slice ao n n) ∧ Below w.heap.size w w' ∧ CellsAt w' ao n (fun r => .slice (A' r) (L r) (L r)) ∧
    ∀ r, r < n → CellsAt w' (A' r) (L r) (fun j => .int .u8 (Z r j)) ∧ (A' r = none → L r = 0)

theorem CopyR.post {w wr : World} {n : Nat} {L : Nat → Nat} {Z : Nat → Nat → Int} {A' : Nat → Option Addr} (h : CopyR w wr n n wr.heap.size L Z A') :
    CopyPost w n L Z (.returned (.slice (some ⟨w.heap.size, 0, none⟩) n n)) wr := by
  refine ⟨_, A', rfl, h.below, .inr ⟨_, _, rfl, fun r hr => ?_⟩, fun r hr => ?_⟩
  · have := h.top.cell hr
    simpa [hr] using this
  · rcases h.rows r hr with ⟨h1, h2⟩ | ⟨g, h1, _, _, h4⟩
    · exact ⟨.inl h2, fun _ => h2⟩
    · exact ⟨.inr ⟨g, 0, h1, fun j hj => by simpa using h4.cell hj⟩, fun hh => by rw [h1] at hh; cases hh⟩

set_option maxHeartbeats 800000 in
theorem copy10 (ao : Option Addr) (n cap : Nat) (A : Nat → Option Addr) (L C : Nat → Nat) (Z : Nat → Nat → Int) (w : World) (hn : n ≤ 65536) (h0 : ao = none → n = 0) (hr : CellsAt w ao n (fun r => .slice (A r) (L r) (C r)))
    (hL : ∀ r, r < n → L r ≤ 1048576) (hZ : ∀ r, r < n → CellsAt w (A r) (L r) (fun j => .int .u8 (Z r j)) ∧ (A r = none → L r = 0)) :
    Calls Try.prog 10 #[.slice ao n cap] w (CopyPost w n L Z) := by
  have q22 := fun w a n c n1 c1 => Lib.run_eql_slice_nil (P := Try.prog) w 22 25 a n c n1 c1 Try.underlying22
  have q25 := fun w a n c n1 c1 => Lib.run_eql_slice_nil (P := Try.prog) w 25 5 a n c n1 c1 Try.underlying25
  cases ao with
  | none =>
    have hn0 : n = 0 := h0 rfl
    subst hn0
    go_enter Try.func10, Try.ntmps10
    go_wp2
    go_ret
    exact ⟨none, fun _ => none, rfl, Below.refl _ _, .inl rfl, fun r hr => by omega⟩
  | some ad =>
    have hmk := run_make_row' (P := Try.prog) 22 25 (.slice none 0 0) 24 Try.underlying22 info25 rfl .i64 .i64 n (by omega) (by omega)
    clear h0
    go_enter Try.func10, Try.ntmps10
    go_wp2
    clear hmk
    go_loopw [4] (fun i wr => ∃ (k : Nat) (A' : Nat → Option Addr), k ≤ n ∧ i = .int .i64 k ∧ CopyR w wr n k wr.heap.size L Z A') (fun i _ => n - (intOf i).toNat)
    case atStart => exact ⟨0, _, Nat.zero_le _, rfl, copy_start w n L Z⟩
    case round =>
      obtain ⟨k, A', hk, rfl, hC⟩ := hrel
      obtain ⟨w1, rfl⟩ : ∃ w1, w1 = wr := ⟨_, rfl⟩
      by_cases hlt : k < n
      · obtain ⟨b, off, hao, hc⟩ := hr.pos hlt
        obtain rfl : ad = ⟨b, off, none⟩ := by simpa using hao
        clear hao
        have hck := hc k hlt
        have hLk := hL k hlt
        have hZk := hZ k hlt
        have hbl : b < w.heap.size := World.block_lt_of_cell? _ _ hck
        have hck1 : w1.cell? ⟨b, off + k, none⟩ = some (.slice (A k) (L k) (C k)) := (hC.below.cell (p := ⟨b, off + k, none⟩) hbl).trans hck
        clear hc hr hL hZ hck
        obtain ⟨hZc, hZn⟩ := hZk
        generalize A k = ak at hck1 hZc hZn
        cases ak with
        | none =>
          have hL0 : L k = 0 := hZn rfl
          have R := hC.passed hL0
          clear hZc hZn hC hLk
          go_wp2
          go_roundw
          case rel => exact ⟨k + 1, _, by omega, by go_num, R⟩
          case measure => simp [intOf]; omega
        | some a' =>
          have hmk := run_make_row' (P := Try.prog) 25 5 (.int .u8 0) 1 Try.underlying25 info5 rfl .i64 .i64 (L k) (by omega) (by omega)
          have C0 := hC.alloc (.cells (madeCells #[.int .u8 0] (L k)) 5)
          have R0 := World.rowIs_made w1 (.int .u8 0) (L k) 5
          clear hZn hC
          have HC0 : Hid (CopyR w (w1.alloc (.cells (madeCells #[.int .u8 0] (L k)) 5)) n k w1.heap.size L Z A') := C0
          have HR0 : Hid ((w1.alloc (.cells (madeCells #[.int .u8 0] (L k)) 5)).rowIs w1.heap.size 5 (L k) (fun _ => .int .u8 0)) := R0
          clear C0 R0
          go_wp2
          clear hmk
          go_loopw [7] (fun j wi => ∃ jj : Nat, jj ≤ L k ∧ j = .int .i64 jj ∧ CopyR w wi n k w1.heap.size L Z A' ∧ wi.rowIs w1.heap.size 5 (L k) (fun j => if j < jj then .int .u8 (Z k j) else .int .u8 0)) (fun j _ => L k - (intOf j).toNat)
          case atStart => exact ⟨0, Nat.zero_le _, rfl, HC0.out, HR0.out.congr (fun j _ => by simp)⟩
          case round =>
            obtain ⟨jj, hjj, rfl, hC, hR⟩ := hrel
            clear HC0 HR0 hck1
            by_cases hj : jj < L k
            · obtain ⟨b', off', hao, hcz⟩ := hZc.pos hj
              obtain rfl : a' = ⟨b', off', none⟩ := by simpa using hao
              clear hao hZc
              have g0 := hcz jj hj
              have hbl' : b' < w.heap.size := World.block_lt_of_cell? _ _ g0
              have g1 : wr.cell? ⟨b', off' + jj, none⟩ = some (.int .u8 (Z k jj)) := (hC.below.cell (p := ⟨b', off' + jj, none⟩) hbl').trans g0
              have g2 := hR.cell hj
              have g3 := hR.frozen jj
              have C1 : Hid (CopyR w (wr.setCell ⟨w1.heap.size, jj, none⟩ (.int .u8 (Z k jj))) n k w1.heap.size L Z A') := hC.setIn jj _
              have R1 : Hid ((wr.setCell ⟨w1.heap.size, jj, none⟩ (.int .u8 (Z k jj))).rowIs w1.heap.size 5 (L k) (fun j => if j < jj + 1 then .int .u8 (Z k j) else .int .u8 0)) := by
                refine (hR.set jj (.int .u8 (Z k jj))).congr (fun j _ => ?_)
                by_cases e : j = jj
                · subst e; simp
                · simp only [e, if_false]
                  by_cases hl : j < jj
                  · rw [if_pos hl, if_pos (by omega)]
                  · rw [if_neg hl, if_neg (by omega)]
              clear hC hR g0 hcz
              simp only [Nat.lt_irrefl, if_false] at g2
              go_wp2
              go_roundw
              case rel => exact ⟨jj + 1, by omega, by go_num, C1.out, R1.out⟩
              case measure => simp [intOf]; omega
            · have e : jj = L k := by omega
              subst e
              have R1 : wr.rowIs w1.heap.size 5 (L k) (fun j => .int .u8 (Z k j)) := hR.congr (fun j hj => by rw [if_pos hj])
              have g2 := hC.top.cell hlt
              have g3 := hC.top.frozen k
              simp only [Nat.lt_irrefl, if_false] at g2
              have C1 : Hid (CopyR w (wr.setCell ⟨w.heap.size, k, none⟩ (.slice (some ⟨w1.heap.size, 0, none⟩) (L k) (L k))) n (k + 1) (wr.setCell ⟨w.heap.size, k, none⟩ (.slice (some ⟨w1.heap.size, 0, none⟩) (L k) (L k))).heap.size L Z (fun r => if r = k then some ⟨w1.heap.size, 0, none⟩ else A' r)) := hC.stored R1
              clear hC hR R1 hZc
              go_wp2
              go_roundw
              case rel => exact ⟨k + 1, _, by omega, by go_num, C1.out⟩
              case measure => simp [intOf]; omega
      · have e : k = n := by omega
        subst e
        go_wp2
        go_ret
        exact hC.post

end Go.Proofs.Qxb6603185a
