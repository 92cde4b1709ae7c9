/-
  (*tally).add where the tally begins anew.
-/
import Derived.Test.Qxb6603185aAdd
namespace Go.Proofs.Qxb6603185a
open Go.RowKit

/-- What emptied leaves of the tally's block, whatever the world it was called in. -/
theorem empty_facts {W w' : World} {B low n cap : Nat} {a : Option Addr} {c : Array Value} (hB : Blk W B 62 c) (h : w' = (W.alloc (.cells #[.int .u64 (low : Nat), .slice a n cap] 60)).alloc (.cells #[.int .u64 0, .slice a 0 cap] 60)) : W.grownBy w' none ∧ Blk w' B 62 c := by
  subst h
  have hg : W.grownBy ((W.alloc (.cells #[.int .u64 (low : Nat), .slice a n cap] 60)).alloc (.cells #[.int .u64 0, .slice a 0 cap] 60)) none :=
    World.grownBy.trans (World.grownBy_alloc W _ none) (World.grownBy_alloc _ _ none)
  exact ⟨hg, hB.grown hg (by simp)⟩

theorem tal_cells {w : World} {B : Nat} {t : Tal} {hv : Value} (h : Blk w B 62 (t.cells hv)) :
    w.cell? ⟨B, 0, none⟩ = some (.int .u64 t.term) ∧ w.cell? ⟨B, 1, none⟩ = some (.int .i64 t.s) ∧ w.cell? ⟨B, 2, none⟩ = some (.int .u64 t.q) ∧ w.cell? ⟨B, 3, none⟩ = some (.int .u64 t.e) ∧
    w.cell? ⟨B, 4, none⟩ = some (.int .u64 (t.low : Nat)) ∧ w.cell? ⟨B, 5, none⟩ = some hv ∧ w.cell? ⟨B, 6, none⟩ = some (.int .i64 t.votes) ∧ w.cell? ⟨B, 7, none⟩ = some (.bool t.split) :=
  ⟨(h.cell 0).trans rfl, (h.cell 1).trans rfl, (h.cell 2).trans rfl, (h.cell 3).trans rfl, (h.cell 4).trans rfl, (h.cell 5).trans rfl, (h.cell 6).trans rfl, (h.cell 7).trans rfl⟩

/-- The boxed id is still there. -/
theorem box_cells {w w' : World} {s q e : Int} (hg : (w.alloc (.cells #[.int .i64 s, .int .u64 q, .int .u64 e] 57)).drew.grownBy w' none) :
    w'.cell? ⟨w.heap.size, 0, none⟩ = some (.int .i64 s) ∧ w'.cell? ⟨w.heap.size, 1, none⟩ = some (.int .u64 q) ∧ w'.cell? ⟨w.heap.size, 2, none⟩ = some (.int .u64 e) := by
  have h : Blk (w.alloc (.cells #[.int .i64 s, .int .u64 q, .int .u64 e] 57)).drew w.heap.size 57 #[.int .i64 s, .int .u64 q, .int .u64 e] := by
    show (w.heap.push _)[w.heap.size]? = _
    simp
  have h2 := h.grown hg (by simp)
  exact ⟨(h2.cell 0).trans rfl, (h2.cell 1).trans rfl, (h2.cell 2).trans rfl⟩

/-- The tally's block laid anew. -/
def resetW (w' : World) (B : Nat) (term s q e : Int) (a : Option Addr) (cap : Nat) : World :=
  (((((((w'.setCell ⟨B, 0, none⟩ (.int .u64 term)).setCell ⟨B, 1, none⟩ (.int .i64 s)).setCell ⟨B, 2, none⟩ (.int .u64 q)).setCell ⟨B, 3, none⟩ (.int .u64 e)).setCell ⟨B, 4, none⟩ (.int .u64 0)).setCell ⟨B, 5, none⟩ (.slice a 0 cap)).setCell ⟨B, 6, none⟩ (.int .i64 0)).setCell ⟨B, 7, none⟩ (.bool false)

theorem own_cut {w : World} {base n cap : Nat} {a : Option Addr} {xs : List Value} (h : w.ownsRow base 35 1 (.slice a n cap) n xs) : w.ownsRow base 35 1 (.slice a 0 cap) 0 [] := by
  refine ⟨by simp, ?_⟩
  rcases h.2 with ⟨h1, _⟩ | ⟨g, cap', cur, h1, h2, h3, _, h5, h6, _⟩
  · cases h1
    exact .inl ⟨rfl, rfl⟩
  · cases h1
    exact .inr ⟨g, cap, cur, rfl, h2, h3, Nat.zero_le _, h5, h6, by simp⟩

theorem reset_grown (w' : World) (B : Nat) (term s q e : Int) (a : Option Addr) (cap : Nat) : w'.grownBy (resetW w' B term s q e a cap) (some B) := by
  unfold resetW
  exact World.grownBy.trans (World.grownBy.trans (World.grownBy.trans (World.grownBy.trans (World.grownBy.trans (World.grownBy.trans (World.grownBy.trans (grownBy_store _ ⟨B, 0, none⟩ _) (grownBy_store _ ⟨B, 1, none⟩ _)) (grownBy_store _ ⟨B, 2, none⟩ _)) (grownBy_store _ ⟨B, 3, none⟩ _)) (grownBy_store _ ⟨B, 4, none⟩ _)) (grownBy_store _ ⟨B, 5, none⟩ _)) (grownBy_store _ ⟨B, 6, none⟩ _)) (grownBy_store _ ⟨B, 7, none⟩ _)

theorem reset_all {w w' : World} {base B n cap : Nat} {a : Option Addr} {t : Tal} {term s q e : Int} {xs : List Value} (hb : base ≤ B) (hbl : B < w.heap.size) (hB : Blk w B 62 (t.cells (.slice a n cap))) (ho : w.ownsRow base 35 1 (.slice a n cap) n xs)
    (hg : (w.alloc (.cells #[.int .i64 s, .int .u64 q, .int .u64 e] 57)).drew.grownBy w' none) (hB' : Blk w' B 62 (t.cells (.slice a n cap))) :
    Sole base B (.slice a n cap) (.slice a 0 cap) w (resetW w' B term s q e a cap) ∧ Blk (resetW w' B term s q e a cap) B 62 ((Tal.fresh term s q e).cells (.slice a 0 cap)) ∧ (resetW w' B term s q e a cap).ownsRow base 35 1 (.slice a 0 cap) 0 [] ∧
    Blk (resetW w' B term s q e a cap) w.heap.size 57 #[.int .i64 s, .int .u64 q, .int .u64 e] := by
  have hG := reset_grown w' B term s q e a cap
  have ho0 := own_cut ho
  have hne : (Value.slice a 0 cap).ownBlock ≠ some B := own_ne_blk ho0 hB (by decide)
  have ho1 : w'.ownsRow base 35 1 (.slice a 0 cap) 0 [] := World.ownsRow.kept (w := (w.alloc (.cells #[.int .i64 s, .int .u64 q, .int .u64 e] 57)).drew) (ho0.alloc _) hg (by cases (Value.slice a 0 cap).ownBlock <;> simp)
  have hbox : Blk (w.alloc (.cells #[.int .i64 s, .int .u64 q, .int .u64 e] 57)).drew w.heap.size 57 #[.int .i64 s, .int .u64 q, .int .u64 e] := by
    show (w.heap.push _)[w.heap.size]? = _
    simp
  have b1 : Below base w (w.alloc (.cells #[.int .i64 s, .int .u64 q, .int .u64 e] 57)).drew := ((Below.refl base w).alloc (by omega) _).drew
  have b2 : Below base w w' := b1.grown hg (by show base ≤ (w.heap.push _).size; simp; omega) (fun j hj => by cases hj)
  have hsole : Sole base B (.slice a n cap) (.slice a 0 cap) w (resetW w' B term s q e a cap) := by
    refine ⟨b2.grown hG (by have := b2.size; omega) (fun j hj => by cases hj; exact hb), fun R h1 h2 h3 => ⟨?_, ?_⟩⟩
    · have e1 := hG.block R (Nat.lt_of_lt_of_le h1 b2.size) (by simpa using h2)
      have e2 := hg.block R (by show R < (w.heap.push _).size; simp; omega) (by simp)
      rw [e1, e2]
      exact Below.heap_alloc _ _ _ h1
    · intro e
      apply h3
      cases a with
      | none => cases e
      | some ad => simpa [Value.ownBlock] using e
  refine ⟨hsole, ?_, ho1.kept hG (.inr hne), (hbox.grown hg (by simp)).grown hG (by simp; omega)⟩
  have s0 := hB'.set 0 (.int .u64 term)
  have s1 := s0.set 1 (.int .i64 s)
  have s2 := s1.set 2 (.int .u64 q)
  have s3 := s2.set 3 (.int .u64 e)
  have s4 := s3.set 4 (.int .u64 0)
  have s5 := s4.set 5 (.slice a 0 cap)
  have s6 := s5.set 6 (.int .i64 0)
  have s7 := s6.set 7 (.bool false)
  clear s0 s1 s2 s3 s4 s5 s6
  have ec : ((((((((t.cells (.slice a n cap)).setIfInBounds 0 (.int .u64 term)).setIfInBounds 1 (.int .i64 s)).setIfInBounds 2 (.int .u64 q)).setIfInBounds 3 (.int .u64 e)).setIfInBounds 4 (.int .u64 0)).setIfInBounds 5 (.slice a 0 cap)).setIfInBounds 6 (.int .i64 0)).setIfInBounds 7 (.bool false) = (Tal.fresh term s q e).cells (.slice a 0 cap) := by
    simp [Tal.cells, Tal.fresh]
  rw [ec] at s7
  unfold resetW
  exact s7

theorem fresh_cells {W : World} {B N : Nat} {term s q e : Int} {hv : Value} (h : Blk W B 62 ((Tal.fresh term s q e).cells hv)) (hb : Blk W N 57 #[.int .i64 s, .int .u64 q, .int .u64 e]) :
    (W.cell? ⟨B, 1, none⟩ = some (.int .i64 s) ∧ W.cell? ⟨B, 2, none⟩ = some (.int .u64 q) ∧ W.cell? ⟨B, 3, none⟩ = some (.int .u64 e)) ∧ W.cell? ⟨N, 0, none⟩ = some (.int .i64 s) ∧ W.cell? ⟨N, 1, none⟩ = some (.int .u64 q) ∧ W.cell? ⟨N, 2, none⟩ = some (.int .u64 e) ∧ True :=
  ⟨⟨(h.cell 1).trans rfl, (h.cell 2).trans rfl, (h.cell 3).trans rfl⟩, (hb.cell 0).trans rfl, (hb.cell 1).trans rfl, (hb.cell 2).trans rfl, trivial⟩

theorem fresh_true {W w1 : World} {base B v : Nat} {hv : Value} {c : Array Value} {e' : Ending} (h : VotePost W base B c hv 0 [] v e' w1) : e' = .returned (.bool true) := by
  rw [h.1, has_none]
  rfl

theorem fresh_put {w W w1 : World} {base B v : Nat} {term s q e : Int} {hv0 hv : Value} {e' : Ending} (hW : Sole base B hv0 hv w W) (hb : base ≤ B) (h : VotePost W base B ((Tal.fresh term s q e).cells hv) hv 0 [] v e' w1) :
    w1.cell? ⟨B, 6, none⟩ = some (.int .i64 0) ∧ w1.frozen? ⟨B, 6, none⟩ = false ∧ AddPost w base B hv0 ((Tal.fresh term s q e).put v) (.returned (.bool true)) (w1.setCell ⟨B, 6, none⟩ (.int .i64 1)) := by
  obtain rfl := fresh_true h
  have := put_new (t := Tal.fresh term s q e) hW hb h
  have e1 : wrap64 ((Tal.fresh term s q e).votes + 1) = 1 := by show wrap64 (0 + 1) = 1; unfold wrap64; decide
  rw [e1] at this
  exact this

theorem sameId_self (s q e : Int) : sameId s q e s q e = true := by simp [sameId]

set_option maxHeartbeats 1600000 in
theorem add30_reset (B base v : Nat) (t : Tal) (a : Option Addr) (n cap : Nat) (term s q e : Int) (w : World) (hB : Blk w B 62 (t.cells (.slice a n cap))) (ho : w.ownsRow base 35 1 (.slice a n cap) n (words t.hs)) (hb : base ≤ B) (hv2 : v ≤ 65536) (hlt : ¬ term < t.term) (hgt : t.term < term ∨ t.votes = 0) :
    Calls Try.prog 30 #[.pointer (some ⟨B, 0, none⟩), .int .u64 term, .agg #[.int .i64 s, .int .u64 q, .int .u64 e], .int .i64 (v : Nat)] w (AddPost w base B (.slice a n cap) (t.add term s q e v)) := by
  have hbl := hB.lt
  have g0 : w.cell? ⟨B, 0, none⟩ = some (.int .u64 t.term) := (hB.cell 0).trans rfl
  have g1 : w.cell? ⟨B, 1, none⟩ = some (.int .i64 t.s) := (hB.cell 1).trans rfl
  have g2 : w.cell? ⟨B, 2, none⟩ = some (.int .u64 t.q) := (hB.cell 2).trans rfl
  have g3 : w.cell? ⟨B, 3, none⟩ = some (.int .u64 t.e) := (hB.cell 3).trans rfl
  have g4 : w.cell? ⟨B, 4, none⟩ = some (.int .u64 (t.low : Nat)) := (hB.cell 4).trans rfl
  have g5 : w.cell? ⟨B, 5, none⟩ = some (.slice a n cap) := (hB.cell 5).trans rfl
  have g6 : w.cell? ⟨B, 6, none⟩ = some (.int .i64 t.votes) := (hB.cell 6).trans rfl
  have g7 : w.cell? ⟨B, 7, none⟩ = some (.bool t.split) := (hB.cell 7).trans rfl
  have f0 := hB.frozen 0
  have f1 := hB.frozen 1
  have f2 := hB.frozen 2
  have f3 := hB.frozen 3
  have f4 := hB.frozen 4
  have f5 := hB.frozen 5
  have f6 := hB.frozen 6
  have f7 := hB.frozen 7
  have qn := run_neq_id 57 (.inl rfl)
  have e1 : t.add term s q e v = (Tal.fresh term s q e).put v := by unfold Tal.add; rw [if_neg hlt, if_pos hgt]
  rw [e1]
  have HB := hid hB
  have HO := hid ho
  clear hB ho e1
  have qs := sameId_self s q e
  by_cases hg : t.term < term
  · clear hgt
    go_enter Try.func30, Try.ntmps30
    go_wp2
    go_region_with (go_at_call 32; refine (empty32 _ _ _ _ _).mono ?_; rintro e' w' ⟨rfl, hw'⟩; obtain ⟨hg', hB'⟩ := empty_facts (show Blk (w.alloc (.cells #[.int .i64 s, .int .u64 q, .int .u64 e] 57)).drew B 62 (t.cells (.slice a n cap)) from HB.out.alloc _) hw'; obtain ⟨c0, c1, c2, c3, c4, c5, c6, c7⟩ := tal_cells hB'; have f0' := hB'.frozen 0; have f1' := hB'.frozen 1; have f2' := hB'.frozen 2; have f3' := hB'.frozen 3; have f4' := hB'.frozen 4; have f5' := hB'.frozen 5; have f6' := hB'.frozen 6; have f7' := hB'.frozen 7; obtain ⟨d0, d1, d2⟩ := box_cells hg'; have HG' := hid hg'; have HB' := hid hB'; clear hg' hB' hw')
    all_goals
      change Exit.then _ _ Exit.normal _ (resetW w' B term s q e a cap)
      obtain ⟨r1, r2, r3, r4⟩ := reset_all (term := term) hb hbl HB.out HO.out HG'.out HB'.out
      generalize resetW w' B term s q e a cap = W at *
      clear HG' HB' c0 c1 c2 c3 c4 c5 c6 c7 f0' f1' f2' f3' f4' f5' f6' f7' d0 d1 d2 g0 g1 g2 g3 g4 g5 g6 g7 f0 f1 f2 f3 f4 f5 f6 f7 HO HB
      obtain ⟨⟨k1, k2, k3⟩, k4, k5, k6, _⟩ := fresh_cells r2 r4
      have HV := hid (fun nq => vote33 B base v 0 ((Tal.fresh term s q e).cells (.slice a 0 cap)) (.slice a 0 cap) [] (W.drewN nq) (r2.drewN nq) hb rfl rfl r3 (by intro x hx; cases hx) (by decide) hv2)
      have HW := hid (fun nq => r1.trans (Sole.drewN base B (.slice a 0 cap) W nq))
      clear r1 r2 r3 r4
      go_wp2
      go_quiet (fail)
      go_wp2_with fail
      refine (HV.out nq).mono ?_
      rintro e' w1 hP
      obtain ⟨c6, f6, hA⟩ := fresh_put (HW.out nq) hb hP
      obtain rfl := fresh_true hP
      have HP := hid hA
      clear hP HV HW hA
      go_wp2
      go_ret
      exact HP.out
  · have h2 : (t.votes == 0) = true := by
      rcases hgt with h | h
      · exact absurd h hg
      · simp [h]
    clear hgt
    go_enter Try.func30, Try.ntmps30
    go_wp2
    go_region_with (go_at_call 32; refine (empty32 _ _ _ _ _).mono ?_; rintro e' w' ⟨rfl, hw'⟩; obtain ⟨hg', hB'⟩ := empty_facts (show Blk (w.alloc (.cells #[.int .i64 s, .int .u64 q, .int .u64 e] 57)).drew B 62 (t.cells (.slice a n cap)) from HB.out.alloc _) hw'; obtain ⟨c0, c1, c2, c3, c4, c5, c6, c7⟩ := tal_cells hB'; have f0' := hB'.frozen 0; have f1' := hB'.frozen 1; have f2' := hB'.frozen 2; have f3' := hB'.frozen 3; have f4' := hB'.frozen 4; have f5' := hB'.frozen 5; have f6' := hB'.frozen 6; have f7' := hB'.frozen 7; obtain ⟨d0, d1, d2⟩ := box_cells hg'; have HG' := hid hg'; have HB' := hid hB'; clear hg' hB' hw')
    all_goals
      change Exit.then _ _ Exit.normal _ (resetW w' B term s q e a cap)
      obtain ⟨r1, r2, r3, r4⟩ := reset_all (term := term) hb hbl HB.out HO.out HG'.out HB'.out
      generalize resetW w' B term s q e a cap = W at *
      clear HG' HB' c0 c1 c2 c3 c4 c5 c6 c7 f0' f1' f2' f3' f4' f5' f6' f7' d0 d1 d2 g0 g1 g2 g3 g4 g5 g6 g7 f0 f1 f2 f3 f4 f5 f6 f7 HO HB
      obtain ⟨⟨k1, k2, k3⟩, k4, k5, k6, _⟩ := fresh_cells r2 r4
      have HV := hid (fun nq => vote33 B base v 0 ((Tal.fresh term s q e).cells (.slice a 0 cap)) (.slice a 0 cap) [] (W.drewN nq) (r2.drewN nq) hb rfl rfl r3 (by intro x hx; cases hx) (by decide) hv2)
      have HW := hid (fun nq => r1.trans (Sole.drewN base B (.slice a 0 cap) W nq))
      clear r1 r2 r3 r4
      go_wp2
      go_quiet (fail)
      go_wp2_with fail
      refine (HV.out nq).mono ?_
      rintro e' w1 hP
      obtain ⟨c6, f6, hA⟩ := fresh_put (HW.out nq) hb hP
      obtain rfl := fresh_true hP
      have HP := hid hA
      clear hP HV HW hA
      go_wp2
      go_ret
      exact HP.out

end Go.Proofs.Qxb6603185a
