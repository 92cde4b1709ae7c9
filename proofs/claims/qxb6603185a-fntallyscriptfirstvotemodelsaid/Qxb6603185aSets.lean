/-
  zzHas, zzWordsEqual, zzSetIs.
-/
import Derived.Test.Qxb6603185aZZAdd
import Derived.Deep.DeepCutAuto
namespace Go.Proofs.Qxb6603185a
open Go.RowKit

/-- Words behind a slice. -/
def WordsAt (w : World) (a : Option Addr) (hs : List Nat) : Prop := CellsAt w a hs.length (fun j => .int .u64 (hs.getD j 0 : Nat))

theorem own_words {w : World} {base cap : Nat} {a : Option Addr} {hs : List Nat} (h : w.ownsRow base 35 1 (.slice a hs.length cap) hs.length (words hs)) : WordsAt w a hs := by
  rcases h.2 with ⟨_, e2⟩ | ⟨g, cap', cur, e1, _⟩
  · exact .inl e2
  · cases e1
    refine .inr ⟨g, 0, rfl, fun r hr => ?_⟩
    rw [Nat.zero_add, h.cellAt r (by omega), words_get hs hr]

theorem WordsAt.drewN {w : World} {a : Option Addr} {hs : List Nat} (h : WordsAt w a hs) (m : Nat) : WordsAt (w.drewN m) a hs := by
  rcases h with h | ⟨b, off, h1, h2⟩
  · exact .inl h
  · exact .inr ⟨b, off, h1, fun r hr => by simpa using h2 r hr⟩

theorem WordsAt.below {B : Nat} {w w' : World} {a : Option Addr} {hs : List Nat} (h : WordsAt w a hs) (hb : Below B w w') (hB : w.heap.size ≤ B) : WordsAt w' a hs := by
  rcases h with h | ⟨b, off, h1, h2⟩
  · exact .inl h
  · refine .inr ⟨b, off, h1, fun r hr => ?_⟩
    have hlt : b < w.heap.size := World.block_lt_of_cell? _ _ (h2 r hr)
    exact (hb.cell (p := ⟨b, off + r, none⟩) (by show b < B; omega)).trans (h2 r hr)

set_option maxHeartbeats 400000 in
theorem has22 (low v cap : Nat) (a : Option Addr) (hs : List Nat) (w : World) (h : WordsAt w a hs) (hok : wordsOk hs) (hlow : low < 18446744073709551616) (hv : v ≤ 1073741824) (_hn : hs.length ≤ 1073741824) :
    Calls Try.prog 22 #[.int .u64 (low : Nat), .slice a hs.length cap, .int .i64 (v : Nat)] w fun e w' => e = .returned (.bool (has low hs v)) ∧ w' = w := by
  unfold has
  by_cases hl : v < 64
  · rw [if_pos hl]
    have hf := has_form low v hlow
    clear h hok
    generalize hs.length = n at *
    generalize low.testBit v = tb at *
    go_enter Try.func22, Try.ntmps22
    go_wp2
    go_ret
    exact ⟨rfl, rfl⟩
  · rw [if_neg hl]
    by_cases hk : (v - 64) / 64 < hs.length
    · obtain ⟨b, off, rfl, hc⟩ := h.pos hk
      have g := hc _ hk
      have hf := has_form (hs.getD ((v - 64) / 64) 0) (v % 64) (getD_lt hok _)
      clear h hok hc
      generalize hs.getD ((v - 64) / 64) 0 = x at *
      generalize hs.length = n at *
      generalize x.testBit (v % 64) = tb at *
      go_enter Try.func22, Try.ntmps22
      go_wp2
      go_ret
      exact ⟨rfl, rfl⟩
    · rw [getD_past (by omega), Nat.zero_testBit]
      clear h hok
      generalize hs.length = n at *
      go_enter Try.func22, Try.ntmps22
      go_wp2
      go_ret
      exact ⟨rfl, rfl⟩

/-- zzWordsEqual: some answer; yes where the words are the same. -/
def EqPost (w : World) (p : Prop) (e : Ending) (w' : World) : Prop := ∃ b m, e = .returned (.bool b) ∧ w' = w.drewN m ∧ (p → b = true)

def Still' (w w' : World) : Prop := ∃ m, w' = w.drewN m
theorem Still'.drewN {w w' : World} (h : Still' w w') (n : Nat) : Still' w (w'.drewN n) := by
  obtain ⟨m, rfl⟩ := h
  exact ⟨m + n, by simp⟩
theorem Still'.cell {w w' : World} (h : Still' w w') (a : Addr) : w'.cell? a = w.cell? a := by
  obtain ⟨m, rfl⟩ := h
  simp

set_option maxHeartbeats 400000 in
theorem eq20 (a1 a2 : Option Addr) (c1 c2 : Nat) (hs1 hs2 : List Nat) (w : World) (h1 : WordsAt w a1 hs1) (h2 : WordsAt w a2 hs2) (hn1 : hs1.length ≤ 1073741824) (_hn2 : hs2.length ≤ 1073741824) :
    Calls Try.prog 20 #[.slice a1 hs1.length c1, .slice a2 hs2.length c2] w (EqPost w (hs1 = hs2)) := by
  by_cases hl : hs1.length = hs2.length
  · have HL := hid hl
    have hne : ((hs1.length : Int) != (hs2.length : Int)) = false := by simp [hl]
    have H1 := hid h1
    have H2 := hid h2
    clear h1 h2 hl
    go_enter Try.func20, Try.ntmps20
    go_wp2
    go_loopw [5] (fun i wr => ∃ k : Nat, k ≤ hs1.length ∧ i = .int .i64 k ∧ Hid (Still' w wr)) (fun i _ => hs1.length - (intOf i).toNat)
    case atStart => exact ⟨0, Nat.zero_le _, rfl, 0, rfl⟩
    case round =>
      obtain ⟨k, hk, rfl, HS⟩ := hrel
      by_cases hlt : k < hs1.length
      · obtain ⟨b, off, rfl, hc⟩ := H1.out.pos hlt
        obtain ⟨b', off', rfl, hc'⟩ := H2.out.pos (show k < hs2.length by rw [← HL.out]; exact hlt)
        have g1 := (HS.out.cell ⟨b, off + k, none⟩).trans (hc k hlt)
        have g2 := (HS.out.cell ⟨b', off' + k, none⟩).trans (hc' k (by rw [← HL.out]; exact hlt))
        have i1 : (k : Int) < (hs1.length : Int) := by omega
        have i2 : (k : Int) < (hs2.length : Int) := by have := HL.out; omega
        have HX : Hid (hs1 = hs2 → hs1.getD k 0 = hs2.getD k 0) := fun h => by rw [h]
        clear hc hc' H1 H2
        by_cases hx : hs1.getD k 0 = hs2.getD k 0
        · rw [hx] at g1
          clear hx HX
          generalize hs2.getD k 0 = y at *
          go_wp2
          go_quiet (fail)
          go_wp2
          go_roundw
          case rel => exact ⟨k + 1, by omega, by go_num, HS.out.drewN _⟩
          case measure => simp [intOf]; omega
        · have hq : (((hs1.getD k 0 : Nat) : Int) != ((hs2.getD k 0 : Nat) : Int)) = true := by
            have : ((hs1.getD k 0 : Nat) : Int) ≠ ((hs2.getD k 0 : Nat) : Int) := by omega
            simpa using this
          have HN : Hid (¬ hs1 = hs2) := fun h => hx (HX.out h)
          clear hx HX
          generalize hs1.getD k 0 = x at *
          generalize hs2.getD k 0 = y at *
          go_wp2
          go_quiet (fail)
          go_wp2
          go_ret
          obtain ⟨m, hm⟩ := HS.out.drewN nq
          exact ⟨false, m, rfl, hm, fun h => absurd h HN.out⟩
      · clear H1 H2
        go_wp2
        go_ret
        obtain ⟨m, hm⟩ := HS.out
        exact ⟨true, m, rfl, hm, fun _ => rfl⟩
  · have HN : Hid (¬ hs1 = hs2) := fun h => hl (by rw [h])
    have hne : ((hs1.length : Int) != (hs2.length : Int)) = true := by
      have : (hs1.length : Int) ≠ (hs2.length : Int) := by omega
      simpa using this
    clear h1 h2 hl
    go_enter Try.func20, Try.ntmps20
    go_wp2
    go_ret
    exact ⟨false, 0, rfl, rfl, fun h => absurd h HN.out⟩

set_option maxHeartbeats 800000 in
theorem setIs21 (gl wl c1 c2 ex : Nat) (a1 a2 : Option Addr) (gh wh : List Nat) (w : World) (h1 : WordsAt w a1 gh) (h2 : WordsAt w a2 wh) (ok1 : wordsOk gh) (ok2 : wordsOk wh) (l1 : gl < 18446744073709551616) (l2 : wl < 18446744073709551616)
    (n1 : gh.length ≤ 1048576) (n2 : wh.length ≤ 1048576) (hex : ex ≤ 65536) (hh : ∀ u, has gl gh u = (has wl wh u || u == ex)) :
    Calls Try.prog 21 #[.int .u64 (gl : Nat), .slice a1 gh.length c1, .int .u64 (wl : Nat), .slice a2 wh.length c2, .int .i64 (ex : Nat)] w fun e w' => e = .returned (.bool true) ∧ w' = w := by
  have HG := hid (fun k (hk : k ≤ 1073741824) => has22 gl k c1 a1 gh w h1 ok1 l1 hk (by omega))
  have HW := hid (fun k (hk : k ≤ 1073741824) => has22 wl k c2 a2 wh w h2 ok2 l2 hk (by omega))
  have HH := hid hh
  clear h1 h2 ok1 ok2 hh
  go_enter Try.func21, Try.ntmps21
  go_upto_if 20 with (fail)
  go_cut [11] from 15 to 50 (fun t wc => wc = w ∧ ∃ n : Nat, n ≤ 1048576 ∧ t = .int .i64 n)
  case first =>
    by_cases hc : gh.length < wh.length
    · go_wp2
      go_meet
      case rel => exact ⟨rfl, wh.length, by omega, rfl⟩
    · go_wp2
      go_meet
      case rel => exact ⟨rfl, gh.length, by omega, rfl⟩
  case rest =>
    obtain ⟨rfl, n, hn, rfl⟩ := hcut
    go_upto_if 28 with (fail)
    go_cut [12] from 15 to 50 (fun t wd => wd = wc ∧ ∃ n : Nat, n ≤ 134217728 ∧ t = .int .i64 n)
    case first =>
      by_cases hc : 64 + 64 * n ≤ ex
      · go_wp2
        go_meet
        case rel => exact ⟨rfl, ex + 1, by omega, by go_num⟩
      · go_wp2
        go_meet
        case rel => exact ⟨rfl, 64 + 64 * n, by omega, by go_num⟩
    case rest =>
      obtain ⟨hwd, lim, hlim, rfl⟩ := hcut
      subst hwd
      go_wp2
      go_loop [13] (fun i => ∃ k : Nat, k ≤ lim ∧ i = .int .i64 k) (fun i => lim - (intOf i).toNat)
      case atStart => exact ⟨0, Nat.zero_le _, rfl⟩
      case round =>
        obtain ⟨k, hk, rfl⟩ := hrel
        by_cases hlt : k < lim
        · have HGk := hid (HG.out k (by omega))
          have HWk := hid (HW.out k (by omega))
          rw [HH.out k] at HGk
          generalize has wl wh k = b1 at *
          cases b1 with
          | true =>
            rw [Bool.true_or] at HGk
            go_wp2_with fail
            refine HWk.out.mono ?_
            rintro e w' ⟨rfl, hw⟩
            subst hw
            go_wp2_with fail
            refine HGk.out.mono ?_
            rintro e w' ⟨rfl, hw⟩
            subst hw
            go_wp2
            go_round
            case rel => exact ⟨k + 1, by omega, by go_num⟩
            case measure => simp [intOf]; omega
          | false =>
            rw [Bool.false_or] at HGk
            have hq : ((k : Int) == (ex : Int)) = (k == ex) := by
              rw [Bool.eq_iff_iff]
              simp
              omega
            generalize (k == ex) = b2 at *
            go_wp2_with fail
            refine HWk.out.mono ?_
            rintro e w' ⟨rfl, hw⟩
            subst hw
            go_wp2_with fail
            refine HGk.out.mono ?_
            rintro e w' ⟨rfl, hw⟩
            subst hw
            go_wp2
            go_round
            case rel => exact ⟨k + 1, by omega, by go_num⟩
            case measure => simp [intOf]; omega
        · go_wp2
          go_ret
          exact ⟨rfl, rfl⟩

end Go.Proofs.Qxb6603185a
