/-
  clonePayloads: the copies share one allocation.
-/
import Derived.Test.Qxb6603185aCopy
namespace Go.Proofs.Qxb6603185a
open Go.RowKit

/-- 'make([]T, 0, n)', n a variable, T of one cell. -/
theorem run_make_room (t e : TypeId) (z : Value) (bytes : Nat) (ht : Try.prog.underlying t = some (.slice e)) (hinfo : (Try.prog.info? e).map (fun i => (i.zero, i.size, i.bytes)) = some (some z, 1, bytes)) (hz1 : z.cells = #[z])
    (kl kc : IntKind) (n : Nat) (hbytes : bytes * n ≤ 281474976710656) (h63 : n ≤ 9223372036854775807) (w : World) :
    (Instr.makeSlice t (.int kl 0) (.int kc (n : Int))).run Try.prog w = .ok (.slice (some ⟨w.heap.size, 0, none⟩) 0 n) (w.alloc (.cells (madeCells #[z] n) e)) := by
  obtain ⟨i, hi, hz, hs, hb⟩ := info_parts hinfo
  have hb' : (i.bytes : Int) * (n : Int) ≤ 281474976710656 := by
    have h : ((i.bytes * n : Nat) : Int) ≤ 281474976710656 := by rw [hb]; omega
    rwa [Int.natCast_mul] at h
  have hr := run_make (P := Try.prog) w t e i z ht hi hz kl kc 0 n (by omega) (by omega) hb' (by omega)
  simp only [Int.toNat_natCast, hs, Nat.mul_one, hz1] at hr
  exact hr

/-- The copy of row r: a piece of the one allocation; nil where the row is empty. -/
def piece (N : Nat) (L : Nat → Nat) (r : Nat) : Value := if L r = 0 then .slice none 0 0 else .slice (some ⟨N, psum L r, none⟩) (L r) (L r)

structure CloneR (w wr : World) (n k T : Nat) (L : Nat → Nat) (Z : Nat → Nat → Int) (xs : List Value) : Prop where
  below : Below w.heap.size w wr
  own : wr.ownsRow w.heap.size 5 1 (.slice (some ⟨w.heap.size, 0, none⟩) (psum L k) T) (psum L k) xs
  top : wr.rowIs (w.heap.size + 1) 25 n (fun r => if r < k then piece w.heap.size L r else .slice none 0 0)
  vals : ∀ r, r < k → ∀ j, j < L r → xs[psum L r + j]? = some (.int .u8 (Z r j))

theorem clone_start (w : World) (n T : Nat) (L : Nat → Nat) (Z : Nat → Nat → Int) (hT : T ≤ maxLen) :
    CloneR w ((w.alloc (.cells (madeCells #[.int .u8 0] T) 5)).alloc (.cells (madeCells #[.slice none 0 0] n) 25)) n 0 T L Z [] := by
  have h1 := World.rowIs_made (w.alloc (.cells (madeCells #[.int .u8 0] T) 5)) (.slice none 0 0) n 25
  refine ⟨((Below.refl _ _).alloc (Nat.le_refl _) _).alloc (by simp) _, ?_, ?_, fun r hr => absurd hr (Nat.not_lt_zero _)⟩
  · exact (World.ownsRow_made (base := w.heap.size) (e := 5) (size := 1) w (madeCells #[.int .u8 0] T) T (Nat.le_refl _) hT (by simp [size_madeCells])).alloc _
  · simp only [World.size_alloc] at h1
    exact h1.congr (fun j _ => by simp)

/-- An empty row: its copy stays nil. -/
theorem CloneR.passed {w wr : World} {n k T : Nat} {L : Nat → Nat} {Z : Nat → Nat → Int} {xs : List Value} (h : CloneR w wr n k T L Z xs) (hL : L k = 0) : CloneR w wr n (k + 1) T L Z xs := by
  have e : psum L (k + 1) = psum L k := by simp [psum, hL]
  refine ⟨h.below, by rw [e]; exact h.own, h.top.congr (fun r _ => ?_), fun r hr j hj => ?_⟩
  · by_cases e : r = k
    · subst e; simp [piece, hL]
    · by_cases hlt : r < k
      · rw [if_pos hlt, if_pos (by omega)]
      · rw [if_neg hlt, if_neg (by omega)]
  · by_cases e : r = k
    · subst e; omega
    · exact h.vals r (by omega) j hj

def byteRow (L : Nat) (Z : Nat → Int) : List Value := (List.range L).map (fun j => .int .u8 (Z j))

theorem byteRow_length (L : Nat) (Z : Nat → Int) : (byteRow L Z).length = L := by simp [byteRow]
theorem byteRow_get (L : Nat) (Z : Nat → Int) (j : Nat) (hj : j < L) : (byteRow L Z)[j]? = some (.int .u8 (Z j)) := by simp [byteRow, hj]
theorem byteRow_one (L : Nat) (Z : Nat → Int) : ∀ u ∈ byteRow L Z, u.oneCell' = true := by
  intro u hu
  obtain ⟨_, _, rfl⟩ := List.mem_map.1 hu
  rfl

/-- A row of bytes: it is appended, and its piece is stored. -/
theorem CloneR.added {w wr w1 : World} {n k T : Nat} {L : Nat → Nat} {Z : Nat → Nat → Int} {xs : List Value} (h : CloneR w wr n k T L Z xs) (hk : k < n) (hL : 0 < L k)
    (hown : w1.ownsRow w.heap.size 5 1 (.slice (some ⟨w.heap.size, 0, none⟩) (psum L k + L k) T) (psum L k + L k) (xs ++ byteRow (L k) (Z k))) (hg : wr.grownBy w1 (some w.heap.size)) :
    w1.cell? ⟨w.heap.size + 1, k, none⟩ = some (.slice none 0 0) ∧ w1.frozen? ⟨w.heap.size + 1, k, none⟩ = false ∧
    CloneR w (w1.setCell ⟨w.heap.size + 1, k, none⟩ (.slice (some ⟨w.heap.size, psum L k, none⟩) (L k) (L k))) n (k + 1) T L Z (xs ++ byteRow (L k) (Z k)) := by
  have hlt := h.top.lt
  have hb : w1.heap[w.heap.size + 1]? = wr.heap[w.heap.size + 1]? := hg.block _ hlt (by simp)
  have htop := h.top.of_block hb
  have hxl : xs.length = psum L k := by simpa using h.own.1
  refine ⟨by simpa using htop.cell hk, htop.frozen k, ((h.below.grown hg h.below.size (fun j hj => by cases hj; exact Nat.le_refl _)).setCell (by simp) _), ?_, (htop.set k _).congr (fun r _ => ?_), fun r hr j hj => ?_⟩
  · obtain ⟨h1, h2⟩ := hown
    refine ⟨h1, ?_⟩
    rcases h2 with ⟨h2, _⟩ | ⟨g, cap, cur, hv, hbg, hh, r⟩
    · cases h2
    · refine .inr ⟨g, cap, cur, hv, hbg, ?_, r⟩
      have e : g = w.heap.size := by cases hv; rfl
      rw [Below.heap_setCell _ _ _ _ (by subst e; simp)]
      exact hh
  · by_cases e : r = k
    · subst e
      rw [if_pos rfl, if_pos (by omega), piece, if_neg (by omega)]
    · rw [if_neg e]
      by_cases hlt : r < k
      · rw [if_pos hlt, if_pos (by omega)]
      · rw [if_neg hlt, if_neg (by omega)]
  · by_cases e : r = k
    · subst e
      rw [List.getElem?_append_right (by omega), hxl, Nat.add_sub_cancel_left]
      exact byteRow_get _ _ _ hj
    · have h1 : psum L r + L r ≤ psum L k := by
        have := psum_mono L (show r + 1 ≤ k by omega)
        simpa [psum] using this
      rw [List.getElem?_append_left (by omega)]
      exact h.vals r (by omega) j hj

/-- What clonePayloads hands back. -/
def ClonePost (w : World) (n : Nat) (L : Nat → Nat) (Z : Nat → Nat → Int) (e : Ending) (w' : World) : Prop :=
  e = .returned (.slice (some ⟨w.heap.size + 1, 0, none⟩) n n) ∧ ∃ xs, CloneR w w' n n (psum L n) L Z xs

set_option maxHeartbeats 800000 in
theorem clone28 (ao : Option Addr) (n cap : Nat) (A : Nat → Option Addr) (L C : Nat → Nat) (Z : Nat → Nat → Int) (w : World) (hn : n ≤ 65536) (hT : psum L n ≤ 1048576) (hr : CellsAt w ao n (fun r => .slice (A r) (L r) (C r)))
    (hZ : ∀ r, r < n → CellsAt w (A r) (L r) (fun j => .int .u8 (Z r j))) :
    Calls Try.prog 28 #[.slice ao n cap] w (ClonePost w n L Z) := by
  obtain ⟨i0, hi, hz0, hz1, hz2⟩ := info_parts info5
  have hps : ∀ k, k ≤ n → psum L k ≤ 1048576 := fun k hk => Nat.le_trans (psum_mono L hk) hT
  have hmk1 := run_make_room 25 5 (.int .u8 0) 1 Try.underlying25 info5 rfl .i64 .i64 (psum L n) (by omega) (by omega)
  have hmk2 := run_make_row' (P := Try.prog) 22 25 (.slice none 0 0) 24 Try.underlying22 info25 rfl .i64 .i64 n (by omega) (by omega)
  have HS : Hid (∀ k, psum L (k + 1) = psum L k + L k) := fun _ => rfl
  have HPS : Hid (∀ k, k ≤ n → psum L k ≤ 1048576) := hps
  clear hps
  go_enter Try.func28, Try.ntmps28
  go_wp2
  go_loop [3, 13] (fun s i => ∃ k : Nat, k ≤ n ∧ i = .int .i64 k ∧ s = .int .i64 (psum L k : Nat)) (fun _ i => n - (intOf i).toNat)
  case atStart => exact ⟨0, Nat.zero_le _, rfl, rfl⟩
  case round =>
    obtain ⟨k, hk, rfl, rfl⟩ := hrel
    by_cases hlt : k < n
    · obtain ⟨b, off, rfl, hc⟩ := hr.pos hlt
      have hck := hc k hlt
      have hb1 : psum L k + L k ≤ 1048576 := HPS.out (k + 1) (by omega)
      clear hc hr hmk1 hmk2 hZ
      go_wp2
      go_round
      case rel => exact ⟨k + 1, by omega, by go_num, by rw [HS.out k]; go_num⟩
      case measure => simp [intOf]; omega
    · have e : k = n := by omega
      subst e
      have St : Hid _ := clone_start w k (psum L k) L Z (by unfold maxLen; omega)
      go_wp2
      clear hmk1 hmk2
      go_loopw [6, 29] (fun a i wr => ∃ (k' : Nat) (xs : List Value), k' ≤ k ∧ i = .int .i64 k' ∧ a = .slice (some ⟨w.heap.size, 0, none⟩) (psum L k') (psum L k) ∧ CloneR w wr k k' (psum L k) L Z xs) (fun _ i _ => k - (intOf i).toNat)
      case atStart => exact ⟨0, [], Nat.zero_le _, rfl, rfl, St.out⟩
      case round =>
        obtain ⟨k', xs, hk', rfl, rfl, hC⟩ := hrel
        clear St
        by_cases hlt' : k' < k
        · obtain ⟨b, off, rfl, hc⟩ := hr.pos hlt'
          have g0 := hc k' hlt'
          have hbl : b < w.heap.size := World.block_lt_of_cell? _ _ g0
          have hck : wr.cell? ⟨b, off + k', none⟩ = some (.slice (A k') (L k') (C k')) := (hC.below.cell (p := ⟨b, off + k', none⟩) hbl).trans g0
          have hb1 : psum L k' + L k' ≤ 1048576 := HPS.out (k' + 1) (by omega)
          have hb2 : psum L k' + L k' ≤ psum L k := psum_mono L (show k' + 1 ≤ k by omega)
          have hZk := hZ k' hlt'
          clear hc hr hZ g0
          by_cases hL : L k' ≤ 0
          · have R : Hid (CloneR w wr k (k' + 1) (psum L k) L Z xs) := hC.passed (by omega)
            clear hC hZk
            go_wp2
            go_roundw
            case rel => exact ⟨k' + 1, xs, by omega, by go_num, by rw [HS.out k', show L k' = 0 by omega]; rfl, R.out⟩
            case measure => simp [intOf]; omega
          · obtain ⟨b', off', hA, hcz⟩ := hZk.pos (k := 0) (by omega)
            rw [hA] at hck
            have hnews : Hid (∀ j u, (byteRow (L k') (Z k'))[j]? = some u → wr.cell? ((⟨b', off', none⟩ : Addr).add j) = some u) := by
              intro j u hu
              have hj : j < L k' := by
                have := (List.getElem?_eq_some_iff.1 hu).1
                rwa [byteRow_length] at this
              rw [byteRow_get _ _ _ hj] at hu
              have g := hcz j hj
              have hbl' : b' < w.heap.size := World.block_lt_of_cell? _ _ g
              rw [Addr.add_lit, ← hu]
              exact (hC.below.cell (p := ⟨b', off' + j, none⟩) hbl').trans g
            have HC : Hid (CloneR w wr k k' (psum L k) L Z xs) := hC
            have hL' : 0 < L k' := by omega
            clear hC hZk hA hcz hL
            go_wp2_with (at_builtin; refine wpList_append_fits _ rfl (.tmp 39) (.tmp 40) 25 rfl w.heap.size 5 i0 1 Try.underlying25 hi hz1 w.heap.size (psum L k') (psum L k) xs rfl HC.out.own ⟨b', off', none⟩ (L k') (C k') (byteRow (L k') (Z k')) rfl (by simp [byteRow_length]) hnews.out (byteRow_one _ _) hb2 ?_)
            intro w2 hown2 hgrow2
            obtain ⟨c1, c2, R⟩ := HC.out.added hlt' hL' hown2 hgrow2
            have HR : Hid _ := R
            clear R hown2 hgrow2 HC hnews
            go_wp2
            go_roundw
            case rel => exact ⟨k' + 1, _, by omega, by go_num, rfl, HR.out⟩
            case measure => simp [intOf]; omega
        · have e : k' = k := by omega
          subst e
          have HC : Hid (CloneR w wr k' k' (psum L k') L Z xs) := hC
          clear hC hr hZ
          go_wp2
          go_ret
          exact ⟨rfl, xs, HC.out⟩

end Go.Proofs.Qxb6603185a
