/-
  FnSeqsScriptLastWriteWins: the walk.
-/
import Derived.Test.Qxb6603185aScript
import Derived.Deep.DeepCutAuto
import Derived.Deep.RegionWith
namespace Go.Proofs.Qxb6603185a
open Go.RowKit Go.Maps

theorem bytes13 (a0 a1 : Option Addr) (n0 c0 n1 c1 : Nat) (w : World) (h0 : n0 ≤ maxLen) (h1 : n1 ≤ maxLen) :
    Calls Try.prog 13 #[.slice a0 n0 c0, .slice a1 n1 c1] w (FitsPost w (n0 ≤ 1048576 ∧ n1 ≤ 1048576)) := by
  unfold maxLen at h0 h1
  by_cases e0 : 1048576 < n0
  · go_enter Try.func13, Try.ntmps13
    go_wp2
    go_ret
    exact ⟨false, rfl, rfl, fun h => by cases h⟩
  by_cases e1 : 1048576 < n1
  · go_enter Try.func13, Try.ntmps13
    go_wp2
    go_ret
    exact ⟨false, rfl, rfl, fun h => by cases h⟩
  by_cases e2 : 1048576 < n0 + n1
  · go_enter Try.func13, Try.ntmps13
    go_wp2
    go_ret
    exact ⟨false, rfl, rfl, fun h => by cases h⟩
  · go_enter Try.func13, Try.ntmps13
    go_wp2
    go_ret
    exact ⟨true, rfl, rfl, fun _ => ⟨by omega, by omega⟩⟩

theorem CellsAt.below {B : Nat} {w w' : World} {ao : Option Addr} {n : Nat} {V : Nat → Value} (h : CellsAt w ao n V) (hb : Below B w w') (hB : w.heap.size ≤ B) : CellsAt w' ao n V := by
  rcases h with h | ⟨b, off, h1, h2⟩
  · exact .inl h
  · refine .inr ⟨b, off, h1, fun r hr => ?_⟩
    have hlt : b < w.heap.size := World.block_lt_of_cell? _ _ (h2 r hr)
    exact (hb.cell (p := ⟨b, off + r, none⟩) (by show b < B; omega)).trans (h2 r hr)

/-- A world that parts from another in draws alone. -/
def Same (w w' : World) : Prop := ∃ m, w' = w.drewN m
theorem Same.refl (w : World) : Same w w := ⟨0, rfl⟩
theorem Same.drewN {w w' : World} (h : Same w w') (n : Nat) : Same w (w'.drewN n) := by
  obtain ⟨m, rfl⟩ := h
  exact ⟨m + n, by simp⟩
theorem Same.cells {w w' : World} (h : Same w w') {ao : Option Addr} {n : Nat} {V : Nat → Value} (hc : CellsAt w ao n V) : CellsAt w' ao n V := by
  obtain ⟨m, rfl⟩ := h
  rcases hc with h | ⟨b, off, h1, h2⟩
  · exact .inl h
  · exact .inr ⟨b, off, h1, fun r hr => by simpa using h2 r hr⟩
theorem Same.seqs {w w' : World} (h : Same w w') {base cnt : Nat} {v m : Value} {xs : List Value} {D : DataW Unit} (hs : Seqs w base cnt v m xs D) : Seqs w' base cnt v m xs D := by
  obtain ⟨m, rfl⟩ := h
  exact ⟨hs.own, hs.map⟩
theorem Same.below {B : Nat} {w0 w w' : World} (h : Same w w') (hb : Below B w0 w) : Below B w0 w' := by
  obtain ⟨m, rfl⟩ := h
  exact below_drewN hb m

theorem CellsAt.congr {w : World} {ao : Option Addr} {n : Nat} {V V' : Nat → Value} (h : CellsAt w ao n V) (e : ∀ r, r < n → V r = V' r) : CellsAt w ao n V' := by
  rcases h with h | ⟨b, off, h1, h2⟩
  · exact .inl h
  · exact .inr ⟨b, off, h1, fun r hr => by rw [h2 r hr, e r hr]⟩

theorem CellsAt.less {w : World} {ao : Option Addr} {n n' : Nat} {V : Nat → Value} (h : CellsAt w ao n V) (hl : n' ≤ n) : CellsAt w ao n' V := by
  rcases h with h | ⟨b, off, h1, h2⟩
  · exact .inl (by omega)
  · exact .inr ⟨b, off, h1, fun r hr => h2 r (by omega)⟩

set_option maxHeartbeats 1000000 in
set_option maxRecDepth 100000 in
theorem lastWrite4 (a0 a1 : Option Addr) (n0 c0 n1 c1 : Nat) (Z0 Z1 : Nat → Int) (w : World) (m0 : n0 ≤ maxLen) (m1 : n1 ≤ maxLen) (z0 : a0 = none → n0 = 0) (z1 : a1 = none → n1 = 0)
    (h0 : CellsAt w a0 n0 (fun j => .int .i64 (Z0 j))) (h1 : CellsAt w a1 n1 (fun j => .int .u64 (Z1 j))) (b0 : ∀ j, j < n0 → Z0 j ≤ 9223372036854775807) (b1 : ∀ j, j < n1 → (Lit.int .u64 (Z1 j)).wf = true) :
    Calls Try.prog 4 #[.slice a0 n0 c0, .slice a1 n1 c1] w fun e w' => e = .returned (.bool true) ∧ Below w.heap.size w w' := by
  have HB := hid (bytes13 a0 a1 n0 c0 n1 c1 w m0 m1)
  have H0 := hid h0
  have H1 := hid h1
  have Z0' := hid z0
  have Z1' := hid z1
  have B0 := hid b0
  have B1 := hid b1
  clear h0 h1 z0 z1 b0 b1
  unfold maxLen at m0 m1
  go_enter Try.func4, Try.ntmps4
  go_wp2_with fail
  refine HB.out.mono ?_
  rintro e w' ⟨bb, rfl, hw, hb⟩
  have hw2 := hw.symm
  subst hw2
  clear hw HB
  cases bb with
  | false =>
    clear hb
    go_wp2
    go_ret
    exact ⟨rfl, Below.refl _ _⟩
  | true =>
    obtain ⟨e0, e1⟩ := hb rfl
    clear hb m0 m1
    by_cases t0 : 4096 < n0
    · go_wp2
      go_ret
      exact ⟨rfl, Below.refl _ _⟩
    by_cases t1 : 4096 < n1
    · go_wp2
      go_ret
      exact ⟨rfl, Below.refl _ _⟩
    by_cases t2 : 1048576 < 8 * (n0 + n1)
    · omega
    go_wp2
    go_loop [5] (fun i => ∃ k : Nat, k ≤ n0 ∧ i = .int .i64 k ∧ Hid (∀ j, j < k → 0 ≤ Z0 j)) (fun i => n0 - (intOf i).toNat)
    case atStart => exact ⟨0, Nat.zero_le _, rfl, fun j hj => absurd hj (Nat.not_lt_zero _)⟩
    case round =>
      obtain ⟨k, hk, rfl, HK⟩ := hrel
      by_cases hlt : k < n0
      · obtain ⟨b, off, rfl, hc⟩ := H0.out.pos hlt
        have hck := hc k hlt
        clear hc
        by_cases hneg : Z0 k < 0
        · go_wp2
          go_ret
          exact ⟨rfl, Below.refl _ _⟩
        · go_wp2
          go_round
          case rel =>
            exact ⟨k + 1, by omega, by go_num, fun j hj => by
              by_cases e : j = k
              · subst e; omega
              · exact HK.out j (by omega)⟩
          case measure => simp [intOf]; omega
      · have HZ : Hid (∀ j, j < n0 → 0 ≤ Z0 j) := fun j hj => HK.out j (by omega)
        clear HK
        have C14 := hid (copy14 a0 n0 c0 (fun j => ((Z0 j).toNat : Int)) w (by omega) Z0'.out (H0.out.congr (fun r hr => by have := HZ.out r hr; show Value.int .i64 (Z0 r) = Value.int .i64 ((Z0 r).toNat : Int); rw [Int.toNat_of_nonneg this])))
        go_wp2_with fail
        refine C14.out.mono ?_
        rintro e w1 ⟨ao0, rfl, hB1, hr0⟩
        have C15 := hid (copy15 a1 n1 c1 Z1 w1 (by omega) Z1'.out (by
          rcases H1.out with h | ⟨b, off, h1, h2⟩
          · exact .inl h
          · refine .inr ⟨b, off, h1, fun r hr => ?_⟩
            have hlt : b < w.heap.size := World.block_lt_of_cell? _ _ (h2 r hr)
            exact (hB1.cell (p := ⟨b, off + r, none⟩) hlt).trans (h2 r hr)))
        have HB1 := hid hB1
        have R0 := hid (cells_of_row hr0)
        clear C14 hB1 hr0 H0 H1
        go_wp2_with fail
        refine C15.out.mono ?_
        rintro e w2 ⟨ao1, rfl, hB2, hr1⟩
        have HB2 := hid (HB1.out.trans (hB2.mono HB1.out.size))
        have S0 : Hid (CellsAt w2 ao0 n0 (fun j => .int .i64 ((Z0 j).toNat : Nat))) := by
          rcases R0.out with h | ⟨b, off, h1, h2⟩
          · exact .inl h
          · refine .inr ⟨b, off, h1, fun r hr => ?_⟩
            have hlt : b < w1.heap.size := World.block_lt_of_cell? _ _ (h2 r hr)
            exact (hB2.cell (p := ⟨b, off + r, none⟩) hlt).trans (h2 r hr)
        have S1 := hid (cells_of_row hr1)
        clear C15 R0 HB1 hB2 hr1
        obtain ⟨S, hS⟩ : ∃ S : Nat → Nat, ∀ j, (Z0 j).toNat = S j := ⟨fun j => (Z0 j).toNat, fun _ => rfl⟩
        have S0' : Hid (CellsAt w2 ao0 n0 (fun j => .int .i64 (S j : Nat))) := S0.out.congr (fun r _ => by rw [hS r])
        have BS : Hid (∀ j, j < n0 → S j ≤ 9223372036854775807) := fun j hj => by have h1 := B0.out j hj; have h2 := HZ.out j hj; have h3 := hS j; omega
        clear S0 hS HZ B0 Z0' Z1'
        go_upto_if 64 with (fail)
        go_cut [6] from 25 to 66 (fun t wc => wc = w2 ∧ ∃ n : Nat, n ≤ n0 ∧ n ≤ n1 ∧ t = .int .i64 n)
        case first =>
          by_cases hmin : n1 < n0
          · go_wp2
            go_meet
            case rel => exact ⟨rfl, n1, by omega, by omega, rfl⟩
          · go_wp2
            go_meet
            case rel => exact ⟨rfl, n0, by omega, by omega, rfl⟩
        case rest =>
          obtain ⟨rfl, n, hn0, hn1, rfl⟩ := hcut
          have T0 : Hid (CellsAt wc ao0 n (fun j => .int .i64 (S j : Nat))) := S0'.out.less hn0
          have T1 : Hid (CellsAt wc ao1 n (fun j => .int .u64 (Z1 j))) := S1.out.less hn1
          have BS' : Hid (∀ j, j < n → S j ≤ 9223372036854775807) := fun j hj => BS.out j (by omega)
          have BV : Hid (∀ j, j < n → (Lit.int .u64 (Z1 j)).wf = true) := fun j hj => B1.out j (by omega)
          clear S0' S1 BS B1
          go_wp2
          go_loopw [7, 8, 9] (fun v m i wr => ∃ k : Nat, k ≤ n ∧ i = .int .i64 k ∧ Hid (Below wc.heap.size wc wr) ∧ Hid (Seqs wr wc.heap.size k v m (lowOf S Z1 k) (highOf S Z1 k))) (fun _ _ i _ => n - (intOf i).toNat)
          case atStart => exact ⟨0, Nat.zero_le _, rfl, Below.refl _ _, World.ownsRow_nil _ _ _ _, .inl ⟨rfl, rfl⟩⟩
          case round =>
            obtain ⟨k', hk', rfl, HBk, HSk⟩ := hrel
            by_cases hlt' : k' < n
            · obtain ⟨b, off, rfl, hc⟩ := T0.out.pos hlt'
              obtain ⟨b', off', rfl, hc'⟩ := T1.out.pos hlt'
              have g0 := hc k' hlt'
              have g0' := hc' k' hlt'
              have hbl : b < wc.heap.size := World.block_lt_of_cell? _ _ g0
              have hbl' : b' < wc.heap.size := World.block_lt_of_cell? _ _ g0'
              have g1 : wr.cell? ⟨b, off + k', none⟩ = some (.int .i64 (S k' : Nat)) := (HBk.out.cell (p := ⟨b, off + k', none⟩) hbl).trans g0
              have g1' : wr.cell? ⟨b', off' + k', none⟩ = some (.int .u64 (Z1 k')) := (HBk.out.cell (p := ⟨b', off' + k', none⟩) hbl').trans g0'
              clear hc hc' g0 g0'
              have i0 : (k' : Int) < (n0 : Int) := by omega
              have i1 : (k' : Int) < (n1 : Int) := by omega
              have HS16 := hid (fun wx (hwx : Seqs wx wc.heap.size k' u7 u8 (lowOf S Z1 k') (highOf S Z1 k')) (hsz : wc.heap.size ≤ wx.heap.size) => seqs16 wc.heap.size k' (S k') (Z1 k') u7 u8 (lowOf S Z1 k') (highOf S Z1 k') wx hsz hwx (BS'.out k' hlt') (BV.out k' hlt') (by omega))
              go_wp2
              go_region_with (go_at_call 16; refine (HS16.out _ ?_ ?_).mono ?_; exact ⟨HSk.out.own, HSk.out.map⟩; exact HBk.out.size; rintro e w' ⟨v', m', rfl, hb', hs'⟩; have HB' : Hid (Below wc.heap.size wc w') := (Below.drew HBk.out).trans hb'; have HS' := hid hs'; clear hb' hs')
              all_goals
                clear g1 g1' HS16
                go_wp2
                go_roundw
                case rel => exact ⟨k' + 1, by omega, by go_num, HB', HS'.out⟩
                case measure => simp [intOf]; omega
            · have e : k' = n := by omega
              subst e
              have HW : Hid (Below w.heap.size w wr) := HB2.out.trans (HBk.out.mono HB2.out.size)
              have T0' : Hid (CellsAt wr ao0 k' (fun j => .int .i64 (S j : Nat))) := T0.out.below HBk.out (Nat.le_refl _)
              have T1' : Hid (CellsAt wr ao1 k' (fun j => .int .u64 (Z1 j))) := T1.out.below HBk.out (Nat.le_refl _)
              obtain ⟨⟨a, cap, hv⟩, r, hm⟩ := HSk.out.shape
              rw [low_len] at hv
              obtain ⟨wb, rfl⟩ : ∃ wb, wb = wr := ⟨_, rfl⟩
              clear HB2 HBk T0 T1
              subst hv hm
              go_wp2
              go_loopw [10] (fun i wr => ∃ i' : Nat, i' ≤ k' ∧ i = .int .i64 i' ∧ Hid (Same wb wr)) (fun i _ => k' - (intOf i).toNat)
              case atStart => exact ⟨0, Nat.zero_le _, rfl, Same.refl _⟩
              case round =>
                obtain ⟨i', hi', rfl, HSame⟩ := hrel
                by_cases hlt2 : i' < k'
                · obtain ⟨b, off, rfl, hc⟩ := (HSame.out.cells T0'.out).pos hlt2
                  have HC := hid hc
                  have g0 := hc i' hlt2
                  have i0 : (i' : Int) < (n0 : Int) := by omega
                  have hS63 := BS'.out i' hlt2
                  clear hc
                  go_wp2
                  go_loop [12, 13] (fun last j => ∃ (l jj : Nat), jj ≤ k' ∧ l < k' ∧ last = .int .i64 l ∧ j = .int .i64 jj ∧ Hid (Z1 l = lastv S Z1 jj (S i'))) (fun _ j => k' - (intOf j).toNat)
                  case atStart => exact ⟨i', i' + 1, by omega, hlt2, rfl, by go_num, (by show Z1 i' = lastv S Z1 (i' + 1) (S i'); simp [lastv])⟩
                  case round =>
                    obtain ⟨l, jj, hjj, hl, rfl, rfl, HL⟩ := hrel
                    by_cases hj : jj < k'
                    · have g1 := HC.out jj hj
                      have j0 : (jj : Int) < (n0 : Int) := by omega
                      by_cases e : S jj = S i'
                      · have hq : (((S jj : Nat) : Int) == ((S i' : Nat) : Int)) = true := by simp [e]
                        have HE := hid e
                        clear e g0
                        go_wp2
                        go_round
                        case rel => exact ⟨jj, jj + 1, by omega, hj, rfl, by go_num, (by show Z1 jj = lastv S Z1 (jj + 1) (S i'); simp [lastv, HE.out])⟩
                        case measure => simp [intOf]; omega
                      · have hq : (((S jj : Nat) : Int) == ((S i' : Nat) : Int)) = false := by simp; omega
                        have HE := hid e
                        clear e g0
                        go_wp2
                        go_round
                        case rel => exact ⟨l, jj + 1, by omega, hl, rfl, by go_num, (by show Z1 l = lastv S Z1 (jj + 1) (S i'); simp only [lastv, if_neg HE.out]; exact HL.out)⟩
                        case measure => simp [intOf]; omega
                    · have e : jj = k' := by omega
                      subst e
                      obtain ⟨b', off', rfl, hc'⟩ := (HSame.out.cells T1'.out).pos hl
                      have g1 := hc' l hl
                      rw [HL.out] at g1
                      have l0 : (l : Int) < (n1 : Int) := by omega
                      have H17 := hid (fun wx (hx : Seqs wx wc.heap.size jj (.slice a (wlen S jj) cap) (.map r) (lowOf S Z1 jj) (highOf S Z1 jj)) => seqOf17 S Z1 jj wc.heap.size jj (S i') (.slice a (wlen S jj) cap) (.map r) wx hx hS63)
                      clear hc' HL g0 HC
                      generalize lastv S Z1 jj (S i') = q at g1 H17
                      go_wp2
                      have HSk' := hid (HSame.out.seqs HSk.out)
                      go_quiet ((go_at_call 17; exact Calls.quiet_of_same (H17.out _ ⟨HSk'.out.own, HSk'.out.map⟩)))
                      by_cases h64 : 64 ≤ S i'
                      · have hkey := keyOf_int_mk (k := 3) Try.underlying3 (a := (S i' : Nat)) (WalkArith.wf_i64 (by omega))
                        have hhas : Maps.has (highOf S Z1 jj) (.int .i64 (S i' : Nat)) = true := by rw [high_has S Z1 jj (S i') h64]; exact wrote_mem S jj i' hlt2
                        obtain ⟨bm, hr, hown⟩ : ∃ bm, r = some bm ∧ wr.ownsMap Try.prog 3 (plainElem Try.prog 35) bm jj (highOf S Z1 jj) := by
                          rcases HSk'.out.map with ⟨_, hD⟩ | ⟨bm, h1, _, _, h4⟩
                          · rw [hD] at hhas; cases hhas
                          · exact ⟨bm, by simpa using h1, h4⟩
                        have HO := hid hown
                        clear hown H17
                        subst hr
                        go_wp2_with (at_lookup; refine wpList_lookup_own_ok_int _ rfl _ _ 32 rfl 3 35 .u64 law3 Try.underlying32 Try.underlying35 (zero35 _) bm jj _ rfl (by exact HO.out) _ _ rfl hkey ?_; intro c _ _)
                        go_roundw
                        case rel => exact ⟨i' + 1, by omega, by go_num, HSame.out.drewN _⟩
                        case measure => simp [intOf]; omega
                      · clear H17
                        go_wp2
                        go_roundw
                        case rel => exact ⟨i' + 1, by omega, by go_num, HSame.out.drewN _⟩
                        case measure => simp [intOf]; omega
                · have U0 : Hid (CellsAt wr ao0 k' (fun j => .int .i64 (S j : Nat))) := HSame.out.cells T0'.out
                  have HSw := hid (HSame.out.seqs HSk.out)
                  have HWw := hid (HSame.out.below HW.out)
                  obtain ⟨wd, rfl⟩ : ∃ wd, wd = wr := ⟨_, rfl⟩
                  clear T0' T1' HSk HSame HW BV
                  go_wp2
                  go_loop [16, 17] (fun q i => ∃ i2 : Nat, i2 ≤ k' ∧ i = .int .i64 i2 ∧ q = .int .i64 (wlen S i2 : Nat)) (fun _ i => k' - (intOf i).toNat)
                  case atStart => exact ⟨0, Nat.zero_le _, rfl, rfl⟩
                  case round =>
                    obtain ⟨i2, hi2, rfl, rfl⟩ := hrel
                    have hw64 := wlen_le S i2
                    by_cases hlt3 : i2 < k'
                    · obtain ⟨b, off, rfl, hc⟩ := U0.out.pos hlt3
                      have g0 := hc i2 hlt3
                      have i0 : (i2 : Int) < (n0 : Int) := by omega
                      have HE : Hid (wlen S (i2 + 1) = if S i2 < 64 ∧ wlen S i2 < S i2 + 1 then S i2 + 1 else wlen S i2) := rfl
                      clear hc
                      generalize wlen S i2 = x at *
                      by_cases c1 : S i2 < 64
                      · by_cases c2 : x < S i2 + 1
                        · go_wp2
                          go_round
                          case rel => exact ⟨i2 + 1, by omega, by go_num, by rw [HE.out, if_pos ⟨c1, c2⟩]; go_num⟩
                          case measure => simp [intOf]; omega
                        · go_wp2
                          go_round
                          case rel => exact ⟨i2 + 1, by omega, by go_num, by rw [HE.out, if_neg (fun hh => c2 hh.2)]⟩
                          case measure => simp [intOf]; omega
                      · go_wp2
                        go_round
                        case rel => exact ⟨i2 + 1, by omega, by go_num, by rw [HE.out, if_neg (fun hh => c1 hh.1)]⟩
                        case measure => simp [intOf]; omega
                    · have e : i2 = k' := by omega
                      subst e
                      go_wp2
                      go_loop [18] (fun q => ∃ kk : Nat, kk ≤ 64 ∧ q = .int .i64 kk) (fun q => 64 - (intOf q).toNat)
                      case atStart => exact ⟨0, Nat.zero_le _, rfl⟩
                      case round =>
                        obtain ⟨kk, hkk, rfl⟩ := hrel
                        by_cases hlt4 : kk < 64
                        · go_wp2
                          go_loop [19, 20] (fun q i => ∃ i3 : Nat, i3 ≤ i2 ∧ i = .int .i64 i3 ∧ q = .bool (wrote S i3 kk)) (fun _ i => i2 - (intOf i).toNat)
                          case atStart => exact ⟨0, Nat.zero_le _, rfl, rfl⟩
                          case round =>
                            obtain ⟨i3, hi3, rfl, rfl⟩ := hrel
                            by_cases hlt5 : i3 < i2
                            · obtain ⟨b, off, rfl, hc⟩ := U0.out.pos hlt5
                              have g0 := hc i3 hlt5
                              have i0 : (i3 : Int) < (n0 : Int) := by omega
                              have HE : Hid (wrote S (i3 + 1) kk = (wrote S i3 kk || S i3 == kk)) := rfl
                              clear hc
                              generalize wrote S i3 kk = x at *
                              by_cases e : S i3 = kk
                              · have hq : (((S i3 : Nat) : Int) == (kk : Int)) = true := by simp [e]
                                have HEq := hid e
                                clear e
                                go_wp2
                                go_round
                                case rel => exact ⟨i3 + 1, by omega, by go_num, by rw [HE.out]; simp [HEq.out]⟩
                                case measure => simp [intOf]; omega
                              · have hq : (((S i3 : Nat) : Int) == (kk : Int)) = false := by simp; omega
                                have HEq := hid e
                                clear e
                                go_wp2
                                go_round
                                case rel => exact ⟨i3 + 1, by omega, by go_num, by rw [HE.out]; simp [HEq.out]⟩
                                case measure => simp [intOf]; omega
                            · have e : i3 = i2 := by omega
                              subst e
                              have H17 := hid (fun (hf : wrote S i3 kk = false) => by
                                have := seqOf17 S Z1 i3 wc.heap.size i3 kk (.slice a (wlen S i3) cap) (.map r) wd HSw.out (by omega)
                                rw [lastv_none S Z1 i3 kk hf] at this
                                exact this)
                              generalize hwb : wrote S i3 kk = x at *
                              clear hwb
                              cases x with
                              | true =>
                                go_wp2
                                go_round
                                case rel => exact ⟨kk + 1, by omega, by go_num⟩
                                case measure => simp [intOf]; omega
                              | false =>
                                have H17' := hid (H17.out rfl)
                                clear H17
                                go_wp2_with (go_at_call 17; refine H17'.out.mono ?_; rintro e w' ⟨rfl, rfl⟩)
                                go_round
                                case rel => exact ⟨kk + 1, by omega, by go_num⟩
                                case measure => simp [intOf]; omega
                        · go_wp2
                          go_loopw [21, 22] (fun q i wr => ∃ i4 : Nat, i4 ≤ i2 ∧ i = .int .i64 i4 ∧ q = .int .i64 (dist S i4 : Nat) ∧ Hid (Same wd wr)) (fun _ i _ => i2 - (intOf i).toNat)
                          case atStart => exact ⟨0, Nat.zero_le _, rfl, rfl, Same.refl _⟩
                          case round =>
                            obtain ⟨i4, hi4, rfl, rfl, HSame⟩ := hrel
                            have hd4 := dist_le S i4
                            by_cases hlt6 : i4 < i2
                            · obtain ⟨b, off, rfl, hc⟩ := (HSame.out.cells U0.out).pos hlt6
                              have HC := hid hc
                              have g0 := hc i4 hlt6
                              have i0 : (i4 : Int) < (n0 : Int) := by omega
                              have HE : Hid (dist S (i4 + 1) = if S i4 < 64 then dist S i4 else if wrote S i4 (S i4) then dist S i4 else dist S i4 + 1) := rfl
                              clear hc
                              generalize dist S i4 = d at *
                              by_cases c1 : S i4 < 64
                              · go_wp2
                                go_roundw
                                case rel => exact ⟨i4 + 1, by omega, by go_num, by rw [HE.out, if_pos c1], HSame⟩
                                case measure => simp [intOf]; omega
                              · go_wp2
                                obtain ⟨we, rfl⟩ : ∃ we, we = wr := ⟨_, rfl⟩
                                go_loopw [23, 24] (fun q j wr => ∃ j4 : Nat, j4 ≤ i4 ∧ j = .int .i64 j4 ∧ q = .bool (wrote S j4 (S i4)) ∧ Hid (Same we wr)) (fun _ j _ => i4 - (intOf j).toNat)
                                case atStart => exact ⟨0, Nat.zero_le _, rfl, rfl, Same.refl _⟩
                                case round =>
                                  obtain ⟨j4, hj4, rfl, rfl, HSame'⟩ := hrel
                                  by_cases hlt7 : j4 < i4
                                  · have g1 : wr.cell? ⟨b, off + j4, none⟩ = some (.int .i64 (S j4 : Nat)) := by
                                      have := HC.out j4 (by omega)
                                      obtain ⟨m, e⟩ := HSame'.out
                                      rw [e]
                                      simpa using this
                                    have g2 : wr.cell? ⟨b, off + i4, none⟩ = some (.int .i64 (S i4 : Nat)) := by
                                      have := HC.out i4 hlt6
                                      obtain ⟨m, e⟩ := HSame'.out
                                      rw [e]
                                      simpa using this
                                    have j0 : (j4 : Int) < (n0 : Int) := by omega
                                    have HE2 : Hid (wrote S (j4 + 1) (S i4) = (wrote S j4 (S i4) || S j4 == S i4)) := rfl
                                    clear g0
                                    generalize wrote S j4 (S i4) = x at *
                                    by_cases e : S j4 = S i4
                                    · have hq : (((S j4 : Nat) : Int) == ((S i4 : Nat) : Int)) = true := by simp [e]
                                      have HEq := hid e
                                      clear e
                                      go_wp2
                                      go_quiet (fail)
                                      go_wp2
                                      go_roundw
                                      case rel => exact ⟨j4 + 1, by omega, by go_num, by rw [HE2.out]; simp [HEq.out], HSame'.out.drewN _⟩
                                      case measure => simp [intOf]; omega
                                    · have hq : (((S j4 : Nat) : Int) == ((S i4 : Nat) : Int)) = false := by simp; omega
                                      have HEq := hid e
                                      clear e
                                      go_wp2
                                      go_quiet (fail)
                                      go_wp2
                                      go_roundw
                                      case rel => exact ⟨j4 + 1, by omega, by go_num, by rw [HE2.out]; simp [HEq.out], HSame'.out.drewN _⟩
                                      case measure => simp [intOf]; omega
                                  · have e : j4 = i4 := by omega
                                    subst e
                                    have HS3 : Hid (Same wd wr) := by
                                      obtain ⟨m, e⟩ := HSame'.out
                                      rw [e]
                                      exact HSame.out.drewN m
                                    rw [if_neg c1] at HE
                                    generalize wrote S j4 (S j4) = x at *
                                    clear g0 HSame HSame'
                                    cases x with
                                    | true =>
                                      go_wp2
                                      go_roundw
                                      case rel => exact ⟨j4 + 1, by omega, by go_num, by rw [HE.out]; rfl, HS3⟩
                                      case measure => simp [intOf]; omega
                                    | false =>
                                      go_wp2
                                      go_roundw
                                      case rel => exact ⟨j4 + 1, by omega, by go_num, by rw [HE.out]; go_num, HS3⟩
                                      case measure => simp [intOf]; omega
                            · have e : i4 = i2 := by omega
                              subst e
                              have qm := fun w r => run_eql_map_nil (P := Try.prog) w 32 3 35 r Try.underlying32
                              have hsz := high_size S Z1 i4
                              have HF := hid (HSame.out.below HWw.out)
                              rcases (HSame.out.seqs HSw.out).map with ⟨hm, hD⟩ | ⟨bm, hm, _, hp, hown⟩
                              · have hd0 : dist S i4 = 0 := by rw [← hsz, hD]; rfl
                                have hr : r = none := by simpa using hm
                                subst hr
                                have hlen := fun ty w => len_nil (w := w) Try.underlying32 ty
                                rw [hd0]
                                clear hm hD hsz HSw U0 HSame hd0 hd4
                                go_wp2
                                go_ret
                                exact ⟨rfl, HF.out⟩
                              · rw [hsz] at hp
                                have hr : r = some bm := by simpa using hm
                                subst hr
                                have hdz : ((dist S i4 : Int) == 0) = false := by simp; omega
                                have HO := hid hown
                                have HZ := hid hsz
                                clear hm hsz HSw U0 HSame hown
                                go_wp2_with (at_len; refine wpList_len_own _ rfl _ 32 rfl 3 35 Try.underlying32 _ bm i4 _ rfl (by exact HO.out) ?_; rw [HZ.out])
                                go_ret
                                exact ⟨rfl, HF.out⟩

end Go.Proofs.Qxb6603185a
