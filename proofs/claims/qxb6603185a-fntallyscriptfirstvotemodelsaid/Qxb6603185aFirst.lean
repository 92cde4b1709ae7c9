/-
  FnTallyScriptFirstVoteModel: the walk.
-/
import Derived.Test.Qxb6603185aModel
namespace Go.Proofs.Qxb6603185a
open Go.RowKit

/-- The memory behind the copy, as the loop keeps it: Bt holds the message's name; the set's words are the call's own. -/
structure Fr (w1 wr : World) (t : Tal) (a : Option Addr) (cap : Nat) : Prop where
  below : Below w1.heap.size w1 wr
  box : Blk wr w1.heap.size 39 #[.int .i64 t.s, .int .u64 t.q, .int .u64 t.e]
  own : wr.ownsRow (w1.heap.size + 1) 35 1 (.slice a t.hs.length cap) t.hs.length (words t.hs)

def voteCells (z : Script) (k : Nat) : Array Value := #[.int .u64 (z.T k), .int .i64 (z.S k), .int .u64 (z.Q k), .int .u64 (z.E k), .int .i64 (z.V k)]

theorem fr_start (w1 : World) : Fr w1 (w1.alloc (.cells #[.int .i64 0, .int .u64 0, .int .u64 0] 39)) ⟨0, 0, 0, 0, 0, [], 0, false⟩ none 0 :=
  ⟨(Below.refl _ _).alloc (Nat.le_refl _) _, (by show (w1.heap.push _)[w1.heap.size]? = _; simp), World.ownsRow_nil _ _ _ _⟩

theorem Fr.lt {w1 wr : World} {t : Tal} {a : Option Addr} {cap : Nat} (h : Fr w1 wr t a cap) : w1.heap.size < wr.heap.size := h.box.lt

theorem Fr.alloc {w1 wr : World} {t : Tal} {a : Option Addr} {cap : Nat} (h : Fr w1 wr t a cap) (o : Obj) : Fr w1 (wr.alloc o) t a cap :=
  ⟨h.below.alloc h.below.size _, h.box.alloc _, h.own.alloc _⟩
theorem Fr.drewN {w1 wr : World} {t : Tal} {a : Option Addr} {cap : Nat} (h : Fr w1 wr t a cap) (m : Nat) : Fr w1 (wr.drewN m) t a cap :=
  ⟨below_drewN h.below m, h.box.drewN m, h.own⟩

/-- Where the script's loop stands. -/
def Stands (z : Script) (k : Nat) (t : Tal) (tp ft : Int) (c : Nat) : Prop :=
  (k = 0 ∧ t = ⟨0, 0, 0, 0, 0, [], 0, false⟩ ∧ tp = 0 ∧ ft = -1 ∧ c = 0) ∨ ∃ (F low : Nat) (hs : List Nat) (sp : Bool), tp = z.T F ∧ ft = (F : Nat) ∧ t = talOf z F c low hs sp ∧ Good z k F c low hs sp

/-- .. once the first vote of the term is known. -/
def Begun (z : Script) (k v : Nat) (t : Tal) (F c : Nat) : Prop :=
  (F = k ∧ c = 0 ∧ Step z k k 0 true (t.add (z.T k) (z.S k) (z.Q k) (z.E k) v)) ∨ ∃ (low : Nat) (hs : List Nat) (sp : Bool), t = talOf z F c low hs sp ∧ Good z k F c low hs sp ∧ ¬ z.T F < z.T k

theorem Begun.le {z : Script} {k v : Nat} {t : Tal} {F c : Nat} (h : Begun z k v t F c) : F ≤ k := by
  rcases h with ⟨h, _⟩ | ⟨_, _, _, _, h, _⟩
  · omega
  · have := h.lt; omega

theorem Begun.cle {z : Script} {k v : Nat} {t : Tal} {F c : Nat} (h : Begun z k v t F c) : c ≤ k := by
  rcases h with ⟨_, h, _⟩ | ⟨_, _, _, _, h, _⟩
  · omega
  · exact h.le

theorem Begun.no_term {z : Script} {k v : Nat} {t : Tal} {F c : Nat} (h : Begun z k v t F c) (ht : (z.T k == z.T F) = false) : Step z k F c false (t.add (z.T k) (z.S k) (z.Q k) (z.E k) v) := by
  rcases h with ⟨rfl, _, _⟩ | ⟨low, hs, sp, rfl, hg, hlt⟩
  · simp at ht
  · exact step_old hg hlt ht
theorem Begun.no_id {z : Script} {k v : Nat} {t : Tal} {F c : Nat} (h : Begun z k v t F c) (ht : (z.T k == z.T F) = true) (hd : z.same k F = false) : Step z k F c false (t.add (z.T k) (z.S k) (z.Q k) (z.E k) v) := by
  rcases h with ⟨rfl, _, _⟩ | ⟨low, hs, sp, rfl, hg, hlt⟩
  · rw [z.same_self] at hd; cases hd
  · exact step_other hg ht hd
theorem Begun.same_id {z : Script} {k v : Nat} {t : Tal} {F c : Nat} (h : Begun z k v t F c) (hk : k ≤ 1048576) (hv : z.V k = (v : Nat)) (hv2 : v ≤ 65536) (ht : (z.T k == z.T F) = true) (hd : z.same k F = true) : Step z k F c (!hitB z F (z.V k) k) (t.add (z.T k) (z.S k) (z.Q k) (z.E k) v) := by
  rcases h with ⟨rfl, rfl, hs⟩ | ⟨low, hs, sp, rfl, hg, hlt⟩
  · rw [hitB_start z F _ F (Nat.le_refl _)]
    exact hs
  · exact step_same hg hk hv hv2 ht hd

theorem Stands.next_new {z : Script} {k v : Nat} {t : Tal} {tp ft : Int} {c : Nat} (h : Stands z k t tp ft c) (hv : z.V k = (v : Nat)) (hv2 : v ≤ 65536) (h0 : 0 ≤ z.T k) (hn : ft < 0 ∨ tp < z.T k) : Begun z k v t k 0 := by
  left
  refine ⟨rfl, rfl, ?_⟩
  rcases h with ⟨rfl, rfl, _, _, _⟩ | ⟨F, low, hs, sp, rfl, rfl, rfl, hg⟩
  · exact step_first z v hv hv2 h0
  · rcases hn with hn | hn
    · omega
    · exact step_new z hv hv2 hn

theorem Stands.next_old {z : Script} {k : Nat} {t : Tal} {tp ft : Int} {c : Nat} (h : Stands z k t tp ft c) (hn : ¬ ft < 0) (hn2 : ¬ tp < z.T k) : ∃ F : Nat, ft = F ∧ tp = z.T F ∧ ∀ v, Begun z k v t F c := by
  rcases h with ⟨rfl, rfl, _, rfl, _⟩ | ⟨F, low, hs, sp, rfl, rfl, rfl, hg⟩
  · omega
  · exact ⟨F, rfl, rfl, fun v => .inr ⟨low, hs, sp, rfl, hg, hn2⟩⟩

theorem Stands.ok {z : Script} {k : Nat} {t : Tal} {tp ft : Int} {c : Nat} (h : Stands z k t tp ft c) : wordsOk t.hs ∧ t.low < 18446744073709551616 ∧ t.hs.length ≤ 1024 := by
  rcases h with ⟨rfl, rfl, _, rfl, _⟩ | ⟨F, low, hs, sp, rfl, rfl, rfl, hg⟩
  · exact ⟨(by intro x hx; cases hx), by decide, by decide⟩
  · exact ⟨hg.ok, hg.lowLt, hg.len⟩

theorem Step.stands {z : Script} {k F c : Nat} {b : Bool} {r : Bool × Tal} (h : Step z k F c b r) : Stands z (k + 1) r.2 (z.T F) (F : Nat) (c + if b then 1 else 0) := by
  obtain ⟨_, low, hs, sp, h2, h3⟩ := h
  exact .inr ⟨F, low, hs, sp, rfl, rfl, h2, h3⟩

theorem VotesAt.congr {w : World} {ao : Option Addr} {n : Nat} {z z' : Script} (h : VotesAt w ao n z) (e : ∀ r, r < n → z.T r = z'.T r ∧ z.S r = z'.S r ∧ z.Q r = z'.Q r ∧ z.E r = z'.E r ∧ z.V r = z'.V r) : VotesAt w ao n z' := by
  rcases h with h | ⟨b, off, h1, h2⟩
  · exact .inl h
  · refine .inr ⟨b, off, h1, fun r hr => ?_⟩
    obtain ⟨e1, e2, e3, e4, e5⟩ := e r hr
    have := h2 r hr
    unfold Five at this ⊢
    rwa [e1, e2, e3, e4, e5] at this

/-- What the test for a new term answered. -/
def NewIs (bn : Bool) (ft tp tk : Int) : Prop := (bn = true → ft < 0 ∨ tp < tk) ∧ (bn = false → ¬ ft < 0 ∧ ¬ tp < tk)

/-- Is the vote for the first one's message, in its term? -/
def wantB (z : Script) (k F : Nat) : Bool := z.T k == z.T F && z.same k F

theorem Five.still {w w' : World} {b o r : Nat} {z : Script} (h : Five w b o z r) (hs : Still' w w') : Five w' b o z r := by
  obtain ⟨m, rfl⟩ := hs
  exact h
theorem Still'.trans {w w' w'' : World} (h : Still' w w') (k : Still' w' w'') : Still' w w'' := by
  obtain ⟨m, rfl⟩ := k
  exact h.drewN m
theorem Fr.still {w1 wr wr' : World} {t : Tal} {a : Option Addr} {cap : Nat} (h : Fr w1 wr t a cap) (hs : Still' wr wr') : Fr w1 wr' t a cap := by
  obtain ⟨m, rfl⟩ := hs
  exact h.drewN m
theorem Blk.still {w w' : World} {B : Nat} {t : TypeId} {c : Array Value} (h : Blk w B t c) (hs : Still' w w') : Blk w' B t c := by
  obtain ⟨m, rfl⟩ := hs
  exact h.drewN m
theorem still_refl (w : World) : Still' w w := ⟨0, rfl⟩

/-- The five cells of a block. -/
theorem Blk.five {w : World} {B : Nat} {t : TypeId} {v0 v1 v2 v3 v4 : Value} (h : Blk w B t #[v0, v1, v2, v3, v4]) :
    w.cell? ⟨B, 0, none⟩ = some v0 ∧ w.cell? ⟨B, 1, none⟩ = some v1 ∧ w.cell? ⟨B, 2, none⟩ = some v2 ∧ w.cell? ⟨B, 3, none⟩ = some v3 ∧ w.cell? ⟨B, 4, none⟩ = some v4 :=
  ⟨h.cell 0, h.cell 1, h.cell 2, h.cell 3, h.cell 4⟩
theorem Blk.three {w : World} {B : Nat} {t : TypeId} {v0 v1 v2 : Value} (h : Blk w B t #[v0, v1, v2]) : w.cell? ⟨B, 0, none⟩ = some v0 ∧ w.cell? ⟨B, 1, none⟩ = some v1 ∧ w.cell? ⟨B, 2, none⟩ = some v2 :=
  ⟨h.cell 0, h.cell 1, h.cell 2⟩

theorem Fr.tallied {w1 w w4 : World} {t : Tal} {a a' : Option Addr} {cap cap' B : Nat} {hv' : Value} {hs' : List Nat} {s' q' e' : Int} (h : Fr w1 w t a cap) (hS : Sole (w1.heap.size + 1) B (.slice a t.hs.length cap) hv' w w4) (hO : w4.ownsRow (w1.heap.size + 1) 35 1 (.slice a' hs'.length cap') hs'.length (words hs')) (tt : Int) (lo : Nat) (vo : Int) (sp : Bool) :
    (w4.cell? ⟨w1.heap.size, 0, none⟩ = some (.int .i64 t.s) ∧ w4.cell? ⟨w1.heap.size, 1, none⟩ = some (.int .u64 t.q) ∧ w4.cell? ⟨w1.heap.size, 2, none⟩ = some (.int .u64 t.e)) ∧
    (w4.frozen? ⟨w1.heap.size, 0, none⟩ = false ∧ w4.frozen? ⟨w1.heap.size, 1, none⟩ = false ∧ w4.frozen? ⟨w1.heap.size, 2, none⟩ = false) ∧
    Fr w1 (((w4.setCell ⟨w1.heap.size, 0, none⟩ (.int .i64 s')).setCell ⟨w1.heap.size, 1, none⟩ (.int .u64 q')).setCell ⟨w1.heap.size, 2, none⟩ (.int .u64 e')) ⟨tt, s', q', e', lo, hs', vo, sp⟩ a' cap' := by
  have hb : Blk w4 w1.heap.size 39 #[.int .i64 t.s, .int .u64 t.q, .int .u64 t.e] := by
    unfold Blk
    rw [hS.below.block w1.heap.size (by omega)]
    exact h.box
  have hB : Below w1.heap.size w1 w4 := h.below.trans (hS.below.mono (by omega))
  refine ⟨hb.three, ⟨hb.frozen 0, hb.frozen 1, hb.frozen 2⟩, ((hB.setCell (Nat.le_refl _) _).setCell (Nat.le_refl _) _).setCell (Nat.le_refl _) _, ((hb.set 0 _).set 1 _).set 2 _, ?_⟩
  exact ownsRow_setCell_below (ownsRow_setCell_below (ownsRow_setCell_below hO (by show w1.heap.size < _; omega) _) (by show w1.heap.size < _; omega) _) (by show w1.heap.size < _; omega) _

set_option maxRecDepth 100000 in
set_option maxHeartbeats 4000000 in
theorem first6 (ao : Option Addr) (n cap : Nat) (z : Script) (w : World) (m0 : n ≤ maxLen) (z0 : ao = none → n = 0) (h0 : VotesAt w ao n z) (hT : ∀ r, r < n → 0 ≤ z.T r) :
    Calls Try.prog 6 #[.slice ao n cap] w fun e w' => e = .returned (.bool true) ∧ Below w.heap.size w w' := by
  have H23 := hid (bytes23 ao n cap w m0)
  have H0 := hid h0
  have HZ := hid z0
  have HT := hid hT
  clear h0 z0 hT
  unfold maxLen at m0
  go_enter Try.func6, Try.ntmps6
  go_wp2_with fail
  refine H23.out.mono ?_
  rintro e w' ⟨bb, rfl, hw, hb⟩
  have hw2 := hw.symm
  subst hw2
  clear hw H23
  cases bb with
  | false =>
    clear hb
    go_wp2
    go_ret
    exact ⟨rfl, Below.refl _ _⟩
  | true =>
    have hn1 := hb rfl
    clear hb m0
    by_cases t0 : 4096 < n
    · go_wp2
      go_ret
      exact ⟨rfl, Below.refl _ _⟩
    by_cases t1 : 1048576 < 40 * n
    · omega
    go_wp2
    go_loop [3] (fun i => ∃ k : Nat, k ≤ n ∧ i = .int .i64 k ∧ Hid (∀ j, j < k → 0 ≤ z.V j ∧ z.V j ≤ 65536)) (fun i => n - (intOf i).toNat)
    case atStart => exact ⟨0, Nat.zero_le _, rfl, fun j hj => absurd hj (Nat.not_lt_zero _)⟩
    case round =>
      obtain ⟨k, hk, rfl, HK⟩ := hrel
      by_cases hlt : k < n
      · obtain ⟨b, off, rfl, hc⟩ := H0.out.pos hlt
        have g4 := (hc k hlt).2.2.2.2
        clear hc
        by_cases hneg : z.V k < 0
        · go_wp2
          go_ret
          exact ⟨rfl, Below.refl _ _⟩
        by_cases hbig : 65536 < z.V k
        · go_wp2
          go_ret
          exact ⟨rfl, Below.refl _ _⟩
        go_wp2
        go_round
        case rel =>
          exact ⟨k + 1, by omega, by go_num, fun j hj => by
            by_cases e : j = k
            · subst e; omega
            · exact HK.out j (by omega)⟩
        case measure => simp [intOf]; omega
      · have HV : Hid (∀ j, j < n → 0 ≤ z.V j ∧ z.V j ≤ 65536) := fun j hj => HK.out j (by omega)
        clear HK
        have C24 := hid (copy24 ao n cap z w (by omega) HZ.out H0.out)
        go_wp2_with fail
        refine C24.out.mono ?_
        rintro e w1 ⟨ao1, rfl, hB1, hv1⟩
        have HB1 := hid hB1
        have HV1 := hid hv1
        clear C24 hB1 hv1 H0 HZ
        go_wp2
        go_loopw [4, 6, 7, 8, 9, 10, 11, 12, 13] (fun tt lo hi vo sp top fi cn i wr => ∃ (k : Nat) (t : Tal) (a : Option Addr) (ca : Nat) (tp ft : Int) (c : Nat), k ≤ n ∧ i = .int .i64 k ∧ tt = .int .u64 t.term ∧ lo = .int .u64 (t.low : Nat) ∧ hi = .slice a t.hs.length ca ∧ vo = .int .i64 t.votes ∧ sp = .bool t.split ∧ top = .int .u64 tp ∧ fi = .int .i64 ft ∧ cn = .int .i64 (c : Nat) ∧ Hid (Fr w1 wr t a ca) ∧ Hid (Stands z k t tp ft c)) (fun _ _ _ _ _ _ _ _ i _ => n - (intOf i).toNat)
        case atStart => exact ⟨0, ⟨0, 0, 0, 0, 0, [], 0, false⟩, none, 0, 0, -1, 0, Nat.zero_le _, rfl, rfl, rfl, rfl, rfl, rfl, rfl, rfl, rfl, fr_start w1, .inl ⟨rfl, rfl, rfl, rfl, rfl⟩⟩
        case round =>
          obtain ⟨k, t, a, ca, tp, ft, c, hk, rfl, rfl, rfl, rfl, rfl, rfl, rfl, rfl, rfl, HF, HS⟩ := hrel
          by_cases hlt : k < n
          · obtain ⟨b, off, rfl, h5⟩ := HV1.out.pos hlt
            have H5 := hid h5
            obtain ⟨g0, g1, g2, g3, g4⟩ := (h5 k hlt).below HF.out.below (h5 k hlt).lt
            obtain ⟨v, hv⟩ : ∃ v : Nat, z.V k = v := ⟨(z.V k).toNat, by have := HV.out k hlt; omega⟩
            have hv2 : v ≤ 65536 := by have := HV.out k hlt; omega
            have HVk := hid hv
            have HT0 := hid (HT.out k hlt)
            rw [hv] at g4
            clear hv h5
            go_upto_region 26 with (fail)
            obtain ⟨w5, hw5⟩ : ∃ w5, w5 = wr.alloc (.cells #[.int .u64 (z.T k), .int .i64 (z.S k), .int .u64 (z.Q k), .int .u64 (z.E k), .int .i64 (v : Nat)] 49) := ⟨_, rfl⟩
            have HF5 : Hid (Fr w1 w5 t a ca) := hid (by rw [hw5]; exact HF.out.alloc _)
            have HK5 : Hid (Blk w5 wr.heap.size 49 #[.int .u64 (z.T k), .int .i64 (z.S k), .int .u64 (z.Q k), .int .u64 (z.E k), .int .i64 (v : Nat)]) := hid (by rw [hw5]; show (wr.heap.push _)[wr.heap.size]? = _; simp)
            rw [← hw5]
            clear hw5 g0 g1 g2 g3 g4
            obtain ⟨p0, p1, p2, p3, p4⟩ := HK5.out.five
            go_cut [78] from 71 to 77 (fun sl wc => wc = w5 ∧ ∃ bn : Bool, sl = .bool bn ∧ NewIs bn ft tp (z.T k))
            case first =>
              by_cases hf : ft < 0
              · go_wp2
                go_meet
                case rel => exact ⟨rfl, true, rfl, fun _ => .inl hf, fun h => by cases h⟩
              · by_cases hp : tp < z.T k
                · go_wp2
                  go_meet
                  case rel => exact ⟨rfl, true, rfl, fun _ => .inr hp, fun h => by cases h⟩
                · go_wp2
                  go_meet
                  case rel => exact ⟨rfl, false, rfl, (fun h => by cases h), fun _ => ⟨by omega, by omega⟩⟩
            case rest =>
              obtain ⟨hwc, bn, rfl, HN⟩ := hcut
              subst hwc
              clear HF
              go_upto_if 78 with (fail)
              go_cut [10, 11, 12] from 79 to 81 (fun top fi cn wd => wd = wc ∧ ∃ F c0 : Nat, top = .int .u64 (z.T F) ∧ fi = .int .i64 (F : Nat) ∧ cn = .int .i64 (c0 : Nat) ∧ Hid (Begun z k v t F c0))
              case first =>
                cases bn with
                | true =>
                  have HX := hid (HS.out.next_new HVk.out hv2 HT0.out (HN.1 rfl))
                  go_wp2
                  go_meet
                  case rel => exact ⟨rfl, k, 0, rfl, rfl, rfl, HX⟩
                | false =>
                  obtain ⟨F, hF1, hF2, hF3⟩ := HS.out.next_old (HN.2 rfl).1 (HN.2 rfl).2
                  have HX := hid (hF3 v)
                  clear hF3
                  go_wp2
                  go_meet
                  case rel => exact ⟨rfl, F, c, by first | rfl | rw [hF2], by first | rfl | rw [hF1], rfl, HX⟩
              case rest =>
                obtain ⟨hwd, F, c0, rfl, rfl, rfl, HX⟩ := hcut
                subst hwd
                clear HN
                have hFk := HX.out.le
                have hc0 := HX.out.cle
                have hFn : F < n := by omega
                obtain ⟨f0, f1, f2, f3, f4⟩ := (H5.out F hFn).below HF5.out.below (H5.out F hFn).lt
                have qe := run_eql_id 39 (.inr rfl)
                have HW : Hid (wantB z k F = (z.T k == z.T F && sameId (z.S k) (z.Q k) (z.E k) (z.S F) (z.Q F) (z.E F))) := hid rfl
                obtain ⟨wp, rfl⟩ : ∃ wp, wp = wc := ⟨_, rfl⟩
                go_upto_region 30 with (fail)
                go_cut [15] from 82 to 95 (fun sl we => Hid (Still' wp we) ∧ sl = .bool (wantB z k F))
                case first =>
                  generalize hd : sameId (z.S k) (z.Q k) (z.E k) (z.S F) (z.Q F) (z.E F) = bd at *
                  cases ht : (z.T k == z.T F) with
                  | false =>
                    go_quiet (fail)
                    go_wp2
                    go_meet
                    case rel => exact ⟨⟨_, rfl⟩, by rw [HW.out, ht]; rfl⟩
                  | true =>
                    go_quiet (fail)
                    go_wp2
                    go_meet
                    case rel => exact ⟨⟨_, rfl⟩, by rw [HW.out, ht]; rfl⟩
                case rest =>
                  obtain ⟨HSt, rfl⟩ := hcut
                  obtain ⟨wq, rfl⟩ : ∃ wq, wq = wc := ⟨_, rfl⟩
                  have HF6 := hid (HF5.out.still HSt.out)
                  have HK6 := hid (HK5.out.still HSt.out)
                  clear p0 p1 p2 p3 p4 f0 f1 f2 f3 f4 HF5 HK5 HSt
                  go_upto_if 96 with (fail)
                  go_cut [15, 16] from 96 to 132 (fun sl _ we => Hid (Still' wq we) ∧ ∃ bb : Bool, sl = .bool bb ∧ Hid (Step z k F c0 bb (t.add (z.T k) (z.S k) (z.Q k) (z.E k) v)))
                  case first =>
                    cases ht : (z.T k == z.T F) with
                    | false =>
                      have hwb : wantB z k F = false := by rw [HW.out, ht]; rfl
                      have HR := hid (HX.out.no_term ht)
                      rw [hwb]
                      go_wp2
                      go_meet
                      case rel => exact ⟨still_refl _, false, rfl, HR⟩
                    | true =>
                      cases hd : sameId (z.S k) (z.Q k) (z.E k) (z.S F) (z.Q F) (z.E F) with
                      | false =>
                        have hwb : wantB z k F = false := by rw [HW.out, ht, hd]; rfl
                        have HR := hid (HX.out.no_id ht hd)
                        rw [hwb]
                        go_wp2
                        go_meet
                        case rel => exact ⟨still_refl _, false, rfl, HR⟩
                      | true =>
                        have hwb : wantB z k F = true := by rw [HW.out, ht, hd]; rfl
                        have HR := hid (HX.out.same_id (by omega) HVk.out hv2 ht hd)
                        rw [HVk.out] at HR
                        rw [hwb]
                        clear HW HX ht hd hwb
                        go_wp2
                        go_loopw [15, 16] (fun sl j wi => ∃ jj : Nat, F ≤ jj ∧ jj ≤ k ∧ j = .int .i64 jj ∧ sl = .bool (!hitB z F (v : Nat) jj) ∧ Hid (Still' wq wi)) (fun _ j _ => k - (intOf j).toNat)
                        case atStart => exact ⟨F, Nat.le_refl _, hFk, rfl, by rw [hitB_start z F _ F (Nat.le_refl _)]; rfl, still_refl _⟩
                        case round =>
                          obtain ⟨jj, hj1, hj2, rfl, rfl, HSi⟩ := hrel
                          by_cases hjk : jj < k
                          · have HFi := hid (HF6.out.still HSi.out)
                            obtain ⟨p0, p1, p2, p3, p4⟩ := (HK6.out.still HSi.out).five
                            have hjn : jj < n := by omega
                            obtain ⟨f0, f1, f2, f3, f4⟩ := (H5.out F hFn).below HFi.out.below (H5.out F hFn).lt
                            obtain ⟨j0, j1, j2, j3, j4⟩ := (H5.out jj hjn).below HFi.out.below (H5.out jj hjn).lt
                            have HH : Hid (hitB z F (v : Nat) (jj + 1) = (hitB z F (v : Nat) jj || (z.T jj == z.T F && sameId (z.S jj) (z.Q jj) (z.E jj) (z.S F) (z.Q F) (z.E F) && z.V jj == (v : Int)))) := hid (by
                              rw [hitB_succ, decide_eq_true hj1, Bool.true_and]
                              rfl)
                            generalize hitB z F (v : Nat) jj = hb0 at *
                            generalize ha2 : sameId (z.S jj) (z.Q jj) (z.E jj) (z.S F) (z.Q F) (z.E F) = a2 at *
                            have i1 : (jj : Int) < (k : Int) := by omega
                            have i2 : (jj : Int) < (n : Int) := by omega
                            have i3 : (F : Int) < (n : Int) := by omega
                            cases ha1 : (z.T jj == z.T F) with
                            | false =>
                              have HN : Hid (hitB z F (v : Nat) (jj + 1) = hb0) := hid (by rw [HH.out, ha1]; simp)
                              clear HH
                              go_wp2
                              go_quiet (fail)
                              go_wp2
                              go_roundw
                              case rel => exact ⟨jj + 1, by omega, by omega, by go_num, by rw [HN.out], HSi.out.drewN _⟩
                              case measure => simp [intOf]; omega
                            | true =>
                              cases a2 with
                              | false =>
                                have HN : Hid (hitB z F (v : Nat) (jj + 1) = hb0) := hid (by rw [HH.out, ha1]; simp)
                                clear HH
                                go_wp2
                                go_quiet (fail)
                                go_wp2
                                go_roundw
                                case rel => exact ⟨jj + 1, by omega, by omega, by go_num, by rw [HN.out], HSi.out.drewN _⟩
                                case measure => simp [intOf]; omega
                              | true =>
                                cases ha3 : (z.V jj == (v : Int)) with
                                | false =>
                                  have HN : Hid (hitB z F (v : Nat) (jj + 1) = hb0) := hid (by rw [HH.out, ha1, ha3]; simp)
                                  clear HH
                                  go_wp2
                                  go_quiet (fail)
                                  go_wp2
                                  go_roundw
                                  case rel => exact ⟨jj + 1, by omega, by omega, by go_num, by rw [HN.out], HSi.out.drewN _⟩
                                  case measure => simp [intOf]; omega
                                | true =>
                                  have HN : Hid (hitB z F (v : Nat) (jj + 1) = true) := hid (by rw [HH.out, ha1, ha3]; simp)
                                  clear HH
                                  go_wp2
                                  go_quiet (fail)
                                  go_wp2
                                  go_roundw
                                  case rel => exact ⟨jj + 1, by omega, by omega, by go_num, by rw [HN.out]; rfl, HSi.out.drewN _⟩
                                  case measure => simp [intOf]; omega
                          · have e : jj = k := by omega
                            subst e
                            go_wp2
                            go_meet
                            case rel => exact ⟨HSi, _, rfl, HR⟩
                  case rest =>
                    obtain ⟨HSt2, bb, rfl, HStep⟩ := hcut
                    have HF7 := hid (HF6.out.still HSt2.out)
                    obtain ⟨p0, p1, p2, p3, p4⟩ := (HK6.out.still HSt2.out).five
                    obtain ⟨q0, q1, q2⟩ := HF7.out.box.three
                    have hok := HS.out.ok
                    have H19 := hid (tally19 (w1.heap.size + 1) v t a ca (z.T k) (z.S k) (z.Q k) (z.E k) wc HF7.out.own HF7.out.lt hok.1 hok.2.1 hv2)
                    generalize t.add (z.T k) (z.S k) (z.Q k) (z.E k) v = r at *
                    have HState := hid HStep.out.stands
                    have hrb := HStep.out.1
                    obtain ⟨rb, r1, r2, r3, r4, r5, rhs, r7, r8⟩ := r
                    simp only at hrb HState H19
                    subst hrb
                    clear HStep HX HS HF6 HK6 HSt2 hok HW
                    go_wp2_with fail
                    refine H19.out.mono ?_
                    rintro e' w4 ⟨a', cap', rfl, hS, hO⟩
                    have HN := hid (HF7.out.tallied (s' := r2) (q' := r3) (e' := r4) (hs' := rhs) hS hO r1 r5 r7 r8)
                    obtain ⟨HBx, HFz, HFr⟩ := HN.out
                    obtain ⟨x0, x1, x2⟩ := HBx
                    obtain ⟨y0, y1, y2⟩ := HFz
                    have HFr' := hid HFr
                    clear hS hO H19 HN HFr HF7 p0 p1 p2 p3 p4 q0 q1 q2
                    cases rb with
                    | false =>
                      go_wp2
                      go_roundw
                      case rel => exact ⟨k + 1, ⟨r1, r2, r3, r4, r5, rhs, r7, r8⟩, a', cap', z.T F, (F : Nat), c0, by omega, by go_num, rfl, rfl, rfl, rfl, rfl, rfl, rfl, rfl, HFr', HState⟩
                      case measure => simp [intOf]; omega
                    | true =>
                      go_wp2
                      go_roundw
                      case rel => exact ⟨k + 1, ⟨r1, r2, r3, r4, r5, rhs, r7, r8⟩, a', cap', z.T F, (F : Nat), c0 + 1, by omega, by go_num, rfl, rfl, rfl, rfl, rfl, rfl, rfl, by go_num, HFr', HState⟩
                      case measure => simp [intOf]; omega
          · have e : k = n := by omega
            rw [e] at HS
            clear hk e
            rcases HS.out with ⟨hk0, _, _, hft, _⟩ | ⟨F, low, hs, sp, htp, hft, ht, hg⟩
            · have HE := hid (HB1.out.trans (HF.out.below.mono HB1.out.size))
              have hneg : ft < 0 := by omega
              clear HS HF
              go_wp2
              go_ret
              exact ⟨rfl, HE.out⟩
            · subst htp
              subst hft
              subst ht
              have hFn := hg.lt
              obtain ⟨b, off, rfl, h5⟩ := HV1.out.pos hFn
              have H5 := hid h5
              have HG := hid hg
              have HE := hid (HB1.out.trans (HF.out.below.mono HB1.out.size))
              obtain ⟨f0, f1, f2, f3, f4⟩ := (h5 F hFn).below HF.out.below (h5 F hFn).lt
              have i3 : (F : Int) < (n : Int) := by omega
              clear HS h5 hg HB1
              simp only [talOf] at HF ⊢
              go_upto_region 51 with (fail)
              clear hlt
              obtain ⟨w6, hw6⟩ : ∃ w6, w6 = wr.alloc (.cells #[.int .i64 (z.S F), .int .u64 (z.Q F), .int .u64 (z.E F)] 39) := ⟨_, rfl⟩
              have HF6 := hid (HF.out.alloc (.cells #[.int .i64 (z.S F), .int .u64 (z.Q F), .int .u64 (z.E F)] 39))
              have HK6 : Hid (Blk w6 wr.heap.size 39 #[.int .i64 (z.S F), .int .u64 (z.Q F), .int .u64 (z.E F)]) := hid (by rw [hw6]; show (wr.heap.push _)[wr.heap.size]? = _; simp)
              have HE6 : Hid (Below w.heap.size w w6) := hid (by rw [hw6]; exact HE.out.alloc HE.out.size _)
              rw [← hw6] at HF6 ⊢
              clear hw6 f0 f1 f2 f3 f4 HF HE
              obtain ⟨x0, x1, x2⟩ := HF6.out.box.three
              obtain ⟨y0, y1, y2⟩ := HK6.out.three
              have qn := run_neq_id 39 (.inr rfl)
              have hself := sameId_self (z.S F) (z.Q F) (z.E F)
              have hTT : (z.T F != z.T F) = false := by simp
              have hcc : ((c : Int) != (c : Int)) = false := by simp
              simp only at x0 x1 x2
              go_wp2
              clear x0 x1 x2 y0 y1 y2 hself hTT hcc
              go_loopw [27, 28] (fun sl j wi => ∃ jj : Nat, F ≤ jj ∧ jj ≤ n ∧ j = .int .i64 jj ∧ sl = .bool (othB z F jj) ∧ Hid (Still' w6 wi)) (fun _ j _ => n - (intOf j).toNat)
              case atStart => exact ⟨F, Nat.le_refl _, by omega, rfl, by rw [othB_start z F F (Nat.le_refl _)], still_refl _⟩
              case round =>
                obtain ⟨jj, hj1, hj2, rfl, rfl, HSi⟩ := hrel
                by_cases hjn : jj < n
                · have HFi := hid (HF6.out.still HSi.out)
                  obtain ⟨y0, y1, y2⟩ := (HK6.out.still HSi.out).three
                  obtain ⟨j0, j1, j2, j3, j4⟩ := (H5.out jj hjn).below HFi.out.below (H5.out jj hjn).lt
                  have HH : Hid (othB z F (jj + 1) = (othB z F jj || (z.T jj == z.T F && !sameId (z.S jj) (z.Q jj) (z.E jj) (z.S F) (z.Q F) (z.E F)))) := hid (by
                    rw [othB_succ, decide_eq_true hj1, Bool.true_and]
                    rfl)
                  generalize othB z F jj = hb0 at *
                  have i2 : (jj : Int) < (n : Int) := by omega
                  by_cases hT1 : z.T jj = z.T F
                  · have ha1 : (z.T jj != z.T F) = false := by simp [hT1]
                    have ha0 : (z.T jj == z.T F) = true := by simp [hT1]
                    cases ha2 : sameId (z.S jj) (z.Q jj) (z.E jj) (z.S F) (z.Q F) (z.E F) with
                    | false =>
                      have HN : Hid (othB z F (jj + 1) = true) := hid (by rw [HH.out, ha0, ha2]; simp)
                      clear HH
                      go_wp2
                      go_quiet (fail)
                      go_wp2
                      go_roundw
                      case rel => exact ⟨jj + 1, by omega, by omega, by go_num, by rw [HN.out], HSi.out.drewN _⟩
                      case measure => simp [intOf]; omega
                    | true =>
                      have HN : Hid (othB z F (jj + 1) = hb0) := hid (by rw [HH.out, ha2]; simp)
                      obtain ⟨vj, hvj⟩ : ∃ v : Nat, z.V jj = v := ⟨(z.V jj).toNat, by have := HV.out jj hjn; omega⟩
                      have hvj2 : vj ≤ 65536 := by have := HV.out jj hjn; omega
                      have hhas : has low hs vj = true := by
                        rw [HG.out.hasEq vj, ← hvj]
                        exact hitB_of z F jj n hj1 hjn hT1 ha2
                      have H22 := hid (fun m => has22 low vj ca a hs (wr.drewN m) ((own_words HFi.out.own).drewN m) HG.out.ok HG.out.lowLt (by omega) (by have := HG.out.len; omega))
                      rw [hhas] at H22
                      rw [hvj] at j4
                      clear HH hhas hvj
                      go_wp2
                      go_quiet (fail)
                      go_wp2_with (go_at_call 22; refine (H22.out _).mono ?_; rintro e w' ⟨rfl, hw⟩; subst hw; clear H22)
                      go_roundw
                      case rel => exact ⟨jj + 1, by omega, by omega, by go_num, by rw [HN.out], HSi.out.drewN _⟩
                      case measure => simp [intOf]; omega
                  · have ha1 : (z.T jj != z.T F) = true := by simp [hT1]
                    have HN : Hid (othB z F (jj + 1) = hb0) := hid (by rw [HH.out, show (z.T jj == z.T F) = false by simp [hT1]]; simp)
                    clear HH hT1
                    go_wp2
                    go_roundw
                    case rel => exact ⟨jj + 1, by omega, by omega, by go_num, by rw [HN.out], HSi⟩
                    case measure => simp [intOf]; omega
                · have e : jj = n := by omega
                  have hsp := HG.out.split
                  rw [← e] at hsp
                  rw [← hsp]
                  have HFi := hid (HF6.out.still HSi.out)
                  have H25 := hid (count25 low ca a hs wr (own_words HFi.out.own) HG.out.ok HG.out.lowLt (by have := HG.out.len; omega))
                  have HP := hid HG.out.popEq
                  have HEi : Hid (Below w.heap.size w wr) := hid (by obtain ⟨m, hm⟩ := HSi.out; rw [hm]; exact below_drewN HE6.out m)
                  have hcc : ((c : Int) == (c : Int)) = true := by simp
                  have hss : (sp != sp) = false := by simp
                  clear hsp HFi HSi
                  go_wp2_with (go_at_call 25; refine H25.out.mono ?_; rintro e w' ⟨rfl, hw⟩; subst hw; rw [HP.out]; clear H25)
                  go_ret
                  exact ⟨rfl, HEi.out⟩

end Go.Proofs.Qxb6603185a
