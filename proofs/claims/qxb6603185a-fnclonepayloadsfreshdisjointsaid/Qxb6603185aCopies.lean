/-
  FnClonePayloadsCopiesExactly: the walk.
-/
import Derived.Test.Qxb6603185aClone
namespace Go.Proofs.Qxb6603185a
open Go.RowKit

theorem CellsAt.below {B : Nat} {w w' : World} {ao : Option Addr} {n : Nat} {V : Nat → Value} (h : CellsAt w ao n V) (hb : Below B w w') (hB : w.heap.size ≤ B) : CellsAt w' ao n V := by
  rcases h with h | ⟨b, off, h1, h2⟩
  · exact .inl h
  · refine .inr ⟨b, off, h1, fun r hr => ?_⟩
    have hlt : b < w.heap.size := World.block_lt_of_cell? _ _ (h2 r hr)
    exact (hb.cell (p := ⟨b, off + r, none⟩) (by show b < B; omega)).trans (h2 r hr)

theorem CellsAt.drewN {w : World} {ao : Option Addr} {n : Nat} {V : Nat → Value} (h : CellsAt w ao n V) (m : Nat) : CellsAt (w.drewN m) ao n V := by
  rcases h with h | ⟨b, off, h1, h2⟩
  · exact .inl h
  · exact .inr ⟨b, off, h1, fun r hr => by simpa using h2 r hr⟩

/-- The bytes of piece r. -/
theorem CloneR.bytes {w wr : World} {n T : Nat} {L : Nat → Nat} {Z : Nat → Nat → Int} {xs : List Value} (h : CloneR w wr n n T L Z xs) {r : Nat} (hr : r < n) :
    CellsAt wr (some ⟨w.heap.size, psum L r, none⟩) (L r) (fun j => .int .u8 (Z r j)) := by
  refine .inr ⟨_, _, rfl, fun j hj => ?_⟩
  have h1 : psum L r + L r ≤ psum L n := by
    have := psum_mono L (show r + 1 ≤ n by omega)
    simpa [psum] using this
  rw [h.own.cellAt (psum L r + j) (by omega)]
  exact h.vals r hr j hj

theorem zclone11 (ao : Option Addr) (n cap : Nat) (A : Nat → Option Addr) (L C : Nat → Nat) (Z : Nat → Nat → Int) (w : World) (hn : n ≤ 65536) (hT : psum L n ≤ 1048576) (hr : CellsAt w ao n (fun r => .slice (A r) (L r) (C r)))
    (hZ : ∀ r, r < n → CellsAt w (A r) (L r) (fun j => .int .u8 (Z r j))) :
    Calls Try.prog 11 #[.slice ao n cap] w (ClonePost w n L Z) := by
  have H := clone28 ao n cap A L C Z w hn hT hr hZ
  clear hr hZ hT hn
  go_enter Try.func11, Try.ntmps11
  go_wp2_with fail
  refine H.mono ?_
  rintro e w' ⟨rfl, h⟩
  have Hh : Hid _ := h
  clear h
  go_wp2
  go_ret
  exact ⟨rfl, Hh.out⟩

/-- What a law's walk is told of a list of byte slices that came in. -/
structure IsPay (w : World) (ao : Option Addr) (n : Nat) (A : Nat → Option Addr) (L C : Nat → Nat) (Z : Nat → Nat → Int) : Prop where
  len : n ≤ maxLen
  nil : ao = none → n = 0
  outer : CellsAt w ao n (fun r => .slice (A r) (L r) (C r))
  lens : ∀ r, r < n → L r ≤ maxLen
  rows : ∀ r, r < n → CellsAt w (A r) (L r) (fun j => .int .u8 (Z r j)) ∧ (A r = none → L r = 0)

set_option maxHeartbeats 1000000 in
theorem copies3 (ao : Option Addr) (n cap : Nat) (A : Nat → Option Addr) (L C : Nat → Nat) (Z : Nat → Nat → Int) (w : World) (h : IsPay w ao n A L C Z) :
    Calls Try.prog 3 #[.slice ao n cap] w fun e w' => e = .returned (.bool true) ∧ Below w.heap.size w w' := by
  have q22 := fun w a n c n1 c1 => Lib.run_eql_slice_nil (P := Try.prog) w 22 25 a n c n1 c1 Try.underlying22
  have HI : Hid (IsPay w ao n A L C Z) := h
  clear h
  go_enter Try.func3, Try.ntmps3
  go_wp2_with fail
  refine (bytes8 ao n cap A L C w HI.out.len HI.out.outer HI.out.lens).mono ?_
  rintro e w' ⟨bb, rfl, hw, hb⟩
  have hw2 := hw.symm
  subst hw2
  clear hw
  cases bb with
  | false =>
    clear hb
    go_wp2
    go_ret
    exact ⟨rfl, Below.refl _ _⟩
  | true =>
    obtain ⟨hn1, hL1⟩ := hb rfl
    clear hb
    have HL1 : Hid _ := hL1
    clear hL1
    go_wp2_with fail
    refine (fit9 ao n cap A L C w hn1 HI.out.outer HL1.out).mono ?_
    rintro e w' ⟨bb, rfl, hw, hb⟩
    have hw2 := hw.symm
    subst hw2
    clear hw
    cases bb with
    | false =>
      clear hb
      go_wp2
      go_ret
      exact ⟨rfl, Below.refl _ _⟩
    | true =>
      obtain ⟨hn2, hT⟩ := hb rfl
      clear hb hn1
      go_wp2_with fail
      refine (copy10 ao n cap A L C Z w hn2 HI.out.nil HI.out.outer HL1.out HI.out.rows).mono ?_
      rintro e w1 ⟨ao1, A1, rfl, hB1, hO1, hR1⟩
      have HB1 : Hid (Below w.heap.size w w1) := hB1
      have HO1 : Hid (CellsAt w1 ao1 n (fun r => .slice (A1 r) (L r) (L r))) := hO1
      have HR1 : Hid (∀ r, r < n → CellsAt w1 (A1 r) (L r) (fun j => .int .u8 (Z r j)) ∧ (A1 r = none → L r = 0)) := hR1
      clear hB1 hO1 hR1
      go_wp2_with fail
      refine (zclone11 ao1 n n A1 L L Z w1 hn2 (by omega) HO1.out (fun r hr => (HR1.out r hr).1)).mono ?_
      rintro e w2 ⟨rfl, xs, hC⟩
      have HC : Hid (CloneR w1 w2 n n (psum L n) L Z xs) := hC
      have HO2 : Hid (CellsAt w2 ao1 n (fun r => .slice (A1 r) (L r) (L r))) := HO1.out.below hC.below (Nat.le_refl _)
      have HR2 : Hid (∀ r, r < n → CellsAt w2 (A1 r) (L r) (fun j => .int .u8 (Z r j))) := fun r hr => (HR1.out r hr).1.below hC.below (Nat.le_refl _)
      have HB2 : Hid (Below w.heap.size w w2) := HB1.out.trans (hC.below.mono HB1.out.size)
      clear hC HO1 HR1 HB1
      go_wp2
      go_loopw [4] (fun i wr => ∃ k : Nat, k ≤ n ∧ i = .int .i64 k ∧ ∃ m, wr = w2.drewN m) (fun i _ => n - (intOf i).toNat)
      case atStart => exact ⟨0, Nat.zero_le _, rfl, 0, rfl⟩
      case round =>
        obtain ⟨k, hk, rfl, m, rfl⟩ := hrel
        by_cases hlt : k < n
        · obtain ⟨b, off, rfl, hc⟩ := HO2.out.pos hlt
          have hck := hc k hlt
          have hLk : L k ≤ 1048576 := HL1.out k hlt
          have hct := HC.out.top.cell hlt
          rw [if_pos hlt] at hct
          have HZ : Hid (CellsAt w2 (A1 k) (L k) (fun j => .int .u8 (Z k j))) := HR2.out k hlt
          have HZ' : Hid (CellsAt w2 (some ⟨w1.heap.size, psum L k, none⟩) (L k) (fun j => .int .u8 (Z k j))) := HC.out.bytes hlt
          clear hc
          by_cases hL : L k ≤ 0
          · have q25 := fun w a n c n1 c1 => run_neq_slice_nil_any (P := Try.prog) w 25 5 a n c n1 c1 Try.underlying25
            rw [piece, if_pos (by omega)] at hct
            go_wp2
            go_roundw
            case rel => exact ⟨k + 1, by omega, by go_num, m, rfl⟩
            case measure => simp [intOf]; omega
          · rw [piece, if_neg (by omega)] at hct
            go_wp2_with fail
            refine (same12 _ _ _ _ _ (Z k) _ hLk (HZ'.out.drewN m) (HZ.out.drewN m)).mono ?_
            rintro e w' ⟨rfl, m', hw⟩
            subst hw
            go_wp2
            go_roundw
            case rel => exact ⟨k + 1, by omega, by go_num, _, rfl⟩
            case measure => simp [intOf]; omega
        · go_wp2
          go_ret
          exact ⟨rfl, below_drewN HB2.out m⟩

end Go.Proofs.Qxb6603185a
