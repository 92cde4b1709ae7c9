/-
  FnClonePayloadsFreshDisjoint: the walk.
-/
import Derived.Test.Qxb6603185aStamp
namespace Go.Proofs.Qxb6603185a
open Go.RowKit

theorem stamp_hid {p : Prop} (h : p) : Hid p := h

set_option maxHeartbeats 1000000 in
set_option maxRecDepth 100000 in
theorem fresh7 (ao : Option Addr) (n cap : Nat) (A : Nat → Option Addr) (L C : Nat → Nat) (Z : Nat → Nat → Int) (w : World) (h : IsPay w ao n A L C Z) :
    Calls Try.prog 7 #[.slice ao n cap] w fun e w' => e = .returned (.bool true) ∧ Below w.heap.size w w' := by
  have HI : Hid (IsPay w ao n A L C Z) := h
  clear h
  go_enter Try.func7, Try.ntmps7
  go_wp2_with fail
  refine (bytes26 ao n cap A L C w HI.out.len HI.out.outer HI.out.lens).mono ?_
  rintro e w' ⟨bb, rfl, hw, hb⟩
  have hw2 := hw.symm
  subst hw2
  clear hw
  cases bb with
  | false =>
    clear hb
    go_wp2
    go_ret
    exact ⟨rfl, Below.refl _ _⟩
  | true =>
    obtain ⟨hn1, hL1⟩ := hb rfl
    clear hb
    have HL1 := stamp_hid hL1
    clear hL1
    go_wp2_with fail
    refine (fit9 ao n cap A L C w hn1 HI.out.outer HL1.out).mono ?_
    rintro e w' ⟨bb, rfl, hw, hb⟩
    have hw2 := hw.symm
    subst hw2
    clear hw
    cases bb with
    | false =>
      clear hb
      go_wp2
      go_ret
      exact ⟨rfl, Below.refl _ _⟩
    | true =>
      obtain ⟨hn2, hT⟩ := hb rfl
      clear hb hn1
      go_wp2_with fail
      refine (copy10 ao n cap A L C Z w hn2 HI.out.nil HI.out.outer HL1.out HI.out.rows).mono ?_
      rintro e w1 ⟨ao1, A1, rfl, hB1, hO1, hR1⟩
      have H2 := stamp_hid (copy10 ao1 n n A1 L L Z w1 hn2 (by
        intro e
        rcases hO1 with h | ⟨b, off, h1, _⟩
        · exact h
        · rw [e] at h1; cases h1) hO1 HL1.out hR1)
      have HB1 := stamp_hid hB1
      have HO1 := stamp_hid hO1
      have HR1 := stamp_hid hR1
      clear hB1 hO1 hR1 HI
      go_wp2_with fail
      refine H2.out.mono ?_
      rintro e w2 ⟨ao2, A2, rfl, hB2, hO2, hR2⟩
      have HO1' := stamp_hid (HO1.out.below hB2 (Nat.le_refl _))
      have HR1' := stamp_hid (fun r (hr : r < n) => (HR1.out r hr).1.below hB2 (Nat.le_refl _))
      have HB2 := stamp_hid (HB1.out.trans (hB2.mono HB1.out.size))
      have HO2 := stamp_hid hO2
      have HR2 := stamp_hid (fun r (hr : r < n) => (hR2 r hr).1)
      clear hB2 hO2 hR2 HO1 HR1 HB1 H2
      go_wp2_with fail
      refine (zclone11 ao1 n n A1 L L Z w2 hn2 (by omega) HO1'.out HR1'.out).mono ?_
      rintro e w3 ⟨rfl, xs, hC⟩
      obtain ⟨F, hF⟩ := hC.stamped
      have HF := stamp_hid hF
      clear hC hF
      have HPS : Hid (∀ k, k ≤ n → psum L k ≤ psum L n) := fun k hk => psum_mono L hk
      have HPT : Hid (∀ k, psum L (k + 1) = psum L k + L k) := fun _ => rfl
      go_wp2
      go_loopw [5] (fun i wr => ∃ k : Nat, k ≤ n ∧ i = .int .i64 k ∧ Hid (Stamped w2 wr n L F)) (fun i _ => n - (intOf i).toNat)
      case atStart => exact ⟨0, Nat.zero_le _, rfl, HF⟩
      case round =>
        obtain ⟨k, hk, rfl, HFk⟩ := hrel
        by_cases hlt : k < n
        · obtain ⟨b, off, rfl, hc⟩ := HO1'.out.pos hlt
          have g0 := hc k hlt
          have hbl : b < w2.heap.size := World.block_lt_of_cell? _ _ g0
          have g1 : wr.cell? ⟨b, off + k, none⟩ = some (.slice (A1 k) (L k) (L k)) := (HFk.out.below.cell (p := ⟨b, off + k, none⟩) hbl).trans g0
          have g2 := HFk.out.top.cell hlt
          rw [piece_eq] at g2
          generalize (if L k = 0 then none else some (⟨w2.heap.size, psum L k, none⟩ : Addr)) = pa at g2
          have i1 : (k : Int) < (n : Int) := by omega
          clear g0 hc
          go_wp2
          go_quiet (fail)
          go_wp2
          go_roundw
          case rel => exact ⟨k + 1, by omega, by go_num, (show Stamped w2 _ n L F from Still.stamped ⟨_, rfl⟩ HFk.out)⟩
          case measure => simp [intOf]; omega
        · clear HF
          obtain ⟨w4, rfl⟩ : ∃ w4, w4 = wr := ⟨_, rfl⟩
          go_wp2
          go_loopw [6] (fun p wr => ∃ (pp : Nat) (F : Nat → Value), pp ≤ 4 ∧ p = .int .i64 pp ∧ Hid (Stamped w2 wr n L F)) (fun p _ => 4 - (intOf p).toNat)
          case atStart => exact ⟨0, F, Nat.zero_le _, rfl, HFk⟩
          case round =>
            obtain ⟨pp, F', hpp, rfl, HFp⟩ := hrel
            by_cases hlt2 : pp < 4
            · clear HFk
              have hlt2' : (pp : Int) < 4 := by omega
              go_wp2
              go_loopw [7, 8] (fun q i wr => ∃ i' : Nat, i' ≤ n ∧ i = .int .i64 i' ∧ q = .int .i64 (psum L i' : Nat) ∧ Hid (Stamped w2 wr n L (fun o => if o < psum L i' then .int .u8 (stamp o pp) else F' o))) (fun _ i _ => n - (intOf i).toNat)
              case atStart => exact ⟨0, Nat.zero_le _, rfl, rfl, HFp.out.congr (fun o _ => by simp [psum])⟩
              case round =>
                obtain ⟨i', hi', rfl, rfl, HFi⟩ := hrel
                clear HFp
                by_cases hlt3 : i' < n
                · have hb1 : psum L i' + L i' ≤ 1048576 := by have := HPS.out (i' + 1) (by omega); rw [HPT.out i'] at this; omega
                  have i1 : (i' : Int) < (n : Int) := by omega
                  go_wp2
                  go_loopw [7, 9] (fun q j wr => ∃ j' o : Nat, j' ≤ L i' ∧ j = .int .i64 j' ∧ q = .int .i64 o ∧ o ≤ 1048576 ∧ Hid (o = psum L i' + j') ∧ Hid (Stamped w2 wr n L (fun q => if q < o then .int .u8 (stamp q pp) else F' q))) (fun _ j _ => L i' - (intOf j).toNat)
                  case atStart => exact ⟨0, psum L i', Nat.zero_le _, rfl, rfl, by omega, (by show psum L i' = psum L i' + 0; omega), HFi⟩
                  case round =>
                    obtain ⟨j', o, hj', rfl, rfl, ho, HO, HFj⟩ := hrel
                    have g2 := HFj.out.top.cell hlt3
                    by_cases hlt4 : j' < L i'
                    · rw [piece, if_neg (by omega)] at g2
                      have hoT : o < psum L n := by have h1 := HPS.out (i' + 1) (by omega); have h2 := HPT.out i'; have h3 := HO.out; omega
                      have g3 := HFj.out.bytes.cell hoT
                      have g4 := HFj.out.bytes.frozen o
                      have HS : Hid (Stamped w2 (wr.setCell ⟨w2.heap.size, psum L i' + j', none⟩ (.int .u8 (stamp o pp))).drew n L (fun q => if q < o + 1 then .int .u8 (stamp q pp) else F' q)) := by
                        refine stamp_hid ?_
                        rw [← HO.out]
                        exact HFj.out.store.drew
                      have H27 := stamp_hid (stamp27 o pp ho hlt2)
                      rw [HO.out] at g3 g4
                      have e0 : o < 1048576 := by omega
                      generalize (if psum L i' + j' < psum L i' + j' then Value.int .u8 (stamp (psum L i' + j') pp) else F' (psum L i' + j')) = old at g3
                      have j1 : (j' : Int) < (L i' : Int) := by omega
                      clear HFj hoT
                      go_wp2
                      go_region_with (go_at_call 27; refine (H27.out _).mono ?_; rintro e w' ⟨rfl, rfl⟩)
                      all_goals
                        go_wp2
                        go_roundw
                        case rel => exact ⟨j' + 1, o + 1, by omega, by go_num, by go_num, by omega, (by have := HO.out; show o + 1 = psum L i' + (j' + 1); omega), HS⟩
                        case measure => simp [intOf]; omega
                    · rw [piece_eq] at g2
                      generalize (if L i' = 0 then none else some (⟨w2.heap.size, psum L i', none⟩ : Addr)) = pa at g2
                      have hoe : o = psum L (i' + 1) := by have h1 := HO.out; have h2 := HPT.out i'; omega
                      have HE := stamp_hid hoe
                      clear hoe
                      go_wp2
                      go_roundw
                      case rel => exact ⟨i' + 1, by omega, by go_num, by rw [← HE.out], by rw [← HE.out]; exact HFj⟩
                      case measure => simp [intOf]; omega
                · have e : i' = n := by omega
                  subst e
                  have HG : Hid (Stamped w2 wr i' L (fun o => .int .u8 (stamp o pp))) := HFi.out.congr (fun o ho => by rw [if_pos ho])
                  clear HFi
                  obtain ⟨w5, rfl⟩ : ∃ w5, w5 = wr := ⟨_, rfl⟩
                  go_wp2
                  go_loopw [7, 10] (fun q i wr => ∃ i2 : Nat, i2 ≤ i' ∧ i = .int .i64 i2 ∧ q = .int .i64 (psum L i2 : Nat) ∧ Hid (Still w5 wr)) (fun _ i _ => i' - (intOf i).toNat)
                  case atStart => exact ⟨0, Nat.zero_le _, rfl, rfl, Still.refl _⟩
                  case round =>
                    obtain ⟨i2, hi2, rfl, rfl, HSt⟩ := hrel
                    by_cases hlt3' : i2 < i'
                    · have hb1 : psum L i2 + L i2 ≤ 1048576 := by have := HPS.out (i2 + 1) (by omega); rw [HPT.out i2] at this; omega
                      have i1 : (i2 : Int) < (i' : Int) := by omega
                      obtain ⟨w6, rfl⟩ : ∃ w6, w6 = wr := ⟨_, rfl⟩
                      go_wp2
                      go_loopw [7, 11] (fun q j wr => ∃ j' o : Nat, j' ≤ L i2 ∧ j = .int .i64 j' ∧ q = .int .i64 o ∧ o ≤ 1048576 ∧ Hid (o = psum L i2 + j') ∧ Hid (Still w5 wr)) (fun _ j _ => L i2 - (intOf j).toNat)
                      case atStart => exact ⟨0, psum L i2, Nat.zero_le _, rfl, rfl, by omega, (by show psum L i2 = psum L i2 + 0; omega), HSt⟩
                      case round =>
                        obtain ⟨j', o, hj', rfl, rfl, ho, HO, HSt'⟩ := hrel
                        have HGq := stamp_hid (HSt'.out.stamped HG.out)
                        have g2 := HGq.out.top.cell hlt3'
                        by_cases hlt4 : j' < L i2
                        · rw [piece, if_neg (by omega)] at g2
                          have hoT : o < psum L i' := by have h1 := HPS.out (i2 + 1) (by omega); have h2 := HPT.out i2; have h3 := HO.out; omega
                          have g3 : wr.cell? ⟨w2.heap.size, psum L i2 + j', none⟩ = some (.int .u8 (stamp o pp)) := by
                            rw [← HO.out]
                            exact HGq.out.bytes.cell hoT
                          have H27 : Hid (∀ w, Calls Try.prog 27 #[.int .i64 (o : Nat), .int .i64 (pp : Nat)] w (fun e w' => e = .returned (.int .u8 (stamp o pp)) ∧ w' = w)) := stamp27 o pp ho hlt2
                          generalize stamp o pp = sv at g3 H27
                          have j1 : (j' : Int) < (L i2 : Int) := by omega
                          have e0 : o < 1048576 := by omega
                          clear HGq hoT
                          go_wp2
                          go_quiet ((go_at_call 27; exact Calls.quiet_of_same (H27.out _)))
                          go_wp2
                          go_roundw
                          case rel => exact ⟨j' + 1, o + 1, by omega, by go_num, by go_num, by omega, (by have := HO.out; show o + 1 = psum L i2 + (j' + 1); omega), HSt'.out.drewN _⟩
                          case measure => simp [intOf]; omega
                        · rw [piece_eq] at g2
                          generalize (if L i2 = 0 then none else some (⟨w2.heap.size, psum L i2, none⟩ : Addr)) = pa at g2
                          have hoe : o = psum L (i2 + 1) := by have h1 := HO.out; have h2 := HPT.out i2; omega
                          have HE := stamp_hid hoe
                          clear hoe HGq
                          go_wp2
                          go_roundw
                          case rel => exact ⟨i2 + 1, by omega, by go_num, by rw [← HE.out], HSt'⟩
                          case measure => simp [intOf]; omega
                    · have HG' := stamp_hid (HSt.out.stamped HG.out)
                      clear HG
                      obtain ⟨w6, rfl⟩ : ∃ w6, w6 = wr := ⟨_, rfl⟩
                      go_wp2
                      go_loopw [12] (fun i wr => ∃ i3 : Nat, i3 ≤ i' ∧ i = .int .i64 i3 ∧ Hid (Still w6 wr)) (fun i _ => i' - (intOf i).toNat)
                      case atStart => exact ⟨0, Nat.zero_le _, rfl, Still.refl _⟩
                      case round =>
                        obtain ⟨i3, hi3, rfl, HSt3⟩ := hrel
                        have HG3 := stamp_hid (HSt3.out.stamped HG'.out)
                        by_cases hlt5 : i3 < i'
                        · obtain ⟨b, off, rfl, hc⟩ := (HO1'.out.below HG3.out.below (Nat.le_refl _)).pos hlt5
                          obtain ⟨b', off', rfl, hc'⟩ := (HO2.out.below HG3.out.below (Nat.le_refl _)).pos hlt5
                          have g1 := hc i3 hlt5
                          have g2 := hc' i3 hlt5
                          have HZ1 := stamp_hid ((HR1'.out i3 hlt5).below HG3.out.below (Nat.le_refl _))
                          have HZ2 := stamp_hid ((HR2.out i3 hlt5).below HG3.out.below (Nat.le_refl _))
                          have hLk : L i3 ≤ 1048576 := HL1.out i3 hlt5
                          have i1 : (i3 : Int) < (i' : Int) := by omega
                          clear hc hc' HG3
                          go_wp2
                          go_quiet ((go_at_call 12; exact Calls.quiet_of (same12 _ _ _ _ _ (Z i3) _ hLk (HZ1.out.drewN _) (HZ2.out.drewN _))))
                          go_wp2
                          go_roundw
                          case rel => exact ⟨i3 + 1, by omega, by go_num, HSt3.out.drewN _⟩
                          case measure => simp [intOf]; omega
                        · go_wp2
                          go_roundw
                          case rel => exact ⟨pp + 1, _, by omega, by go_num, HG3⟩
                          case measure => simp [intOf]; omega
            · go_wp2
              go_ret
              exact ⟨rfl, HB2.out.trans (HFp.out.below.mono HB2.out.size)⟩

end Go.Proofs.Qxb6603185a
