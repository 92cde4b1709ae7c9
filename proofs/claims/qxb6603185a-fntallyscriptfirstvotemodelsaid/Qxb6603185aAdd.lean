/-
  (*tally).add and ZZTallyAdd.
-/
import Derived.Test.Qxb6603185aVoters
import Derived.Deep.RegionHeld3
namespace Go.Proofs.Qxb6603185a
open Go.RowKit

/-- A tally, plain. -/
structure Tal where
  term : Int
  s : Int
  q : Int
  e : Int
  low : Nat
  hs : List Nat
  votes : Int
  split : Bool

def Tal.cells (t : Tal) (hv : Value) : Array Value := #[.int .u64 t.term, .int .i64 t.s, .int .u64 t.q, .int .u64 t.e, .int .u64 (t.low : Nat), hv, .int .i64 t.votes, .bool t.split]

def sameId (s q e s' q' e' : Int) : Bool := s == s' && q == q' && e == e'

theorem run_eql_id (t : TypeId) (ht : t = 57 ∨ t = 39) (s q e s' q' e' : Int) (w : World) :
    (binOp .eql t (.agg #[.int .i64 s, .int .u64 q, .int .u64 e]) (.agg #[.int .i64 s', .int .u64 q', .int .u64 e'])).run Try.prog w = .ok (.bool (sameId s q e s' q' e')) w := by
  unfold sameId
  rcases ht with rfl | rfl
  · by_cases h1 : s = s' <;> by_cases h2 : q = q' <;> by_cases h3 : e = e' <;> simp [h1, h2, h3, go_sem]
  · by_cases h1 : s = s' <;> by_cases h2 : q = q' <;> by_cases h3 : e = e' <;> simp [h1, h2, h3, go_sem]

theorem run_neq_id (t : TypeId) (ht : t = 57 ∨ t = 39) (s q e s' q' e' : Int) (w : World) :
    (binOp .neq t (.agg #[.int .i64 s, .int .u64 q, .int .u64 e]) (.agg #[.int .i64 s', .int .u64 q', .int .u64 e'])).run Try.prog w = .ok (.bool (!sameId s q e s' q' e')) w := by
  unfold sameId
  rcases ht with rfl | rfl
  · by_cases h1 : s = s' <;> by_cases h2 : q = q' <;> by_cases h3 : e = e' <;> simp [h1, h2, h3, go_sem]
  · by_cases h1 : s = s' <;> by_cases h2 : q = q' <;> by_cases h3 : e = e' <;> simp [h1, h2, h3, go_sem]

def Tal.put (t : Tal) (v : Nat) : Bool × Tal :=
  (!has t.low t.hs v, if has t.low t.hs v then t else { t with low := lowAdd t.low v, hs := highAdd t.hs v, votes := wrap64 (t.votes + 1) })

def Tal.fresh (term s q e : Int) : Tal := ⟨term, s, q, e, 0, [], 0, false⟩

def Tal.add (t : Tal) (term s q e : Int) (v : Nat) : Bool × Tal :=
  if term < t.term then (false, t)
  else if t.term < term ∨ t.votes = 0 then (Tal.fresh term s q e).put v
  else if sameId s q e t.s t.q t.e then t.put v
  else (false, { t with split := true })

def AddPost (w : World) (base B : Nat) (hv : Value) (r : Bool × Tal) (e : Ending) (w' : World) : Prop :=
  e = .returned (.bool r.1) ∧ ∃ hv', Sole base B hv hv' w w' ∧ Blk w' B 62 (r.2.cells hv') ∧ w'.ownsRow base 35 1 hv' r.2.hs.length (words r.2.hs)

theorem Blk.alloc {w : World} {B : Nat} {t : TypeId} {c : Array Value} (h : Blk w B t c) (o : Obj) : Blk (w.alloc o) B t c := h.grown (World.grownBy_alloc w o none) (by simp)

set_option maxHeartbeats 400000 in
/-- An older term: nothing happens. -/
theorem add30_old (B base v : Nat) (t : Tal) (hv : Value) (term s q e : Int) (w : World) (hB : Blk w B 62 (t.cells hv)) (ho : w.ownsRow base 35 1 hv t.hs.length (words t.hs)) (hb : base ≤ B) (hlt : term < t.term) :
    Calls Try.prog 30 #[.pointer (some ⟨B, 0, none⟩), .int .u64 term, .agg #[.int .i64 s, .int .u64 q, .int .u64 e], .int .i64 (v : Nat)] w (AddPost w base B hv (t.add term s q e v)) := by
  have hbl := hB.lt
  have e1 : t.add term s q e v = (false, t) := by unfold Tal.add; rw [if_pos hlt]
  rw [e1]
  have hP : AddPost w base B hv (false, t) (.returned (.bool false)) (w.alloc (.cells #[.int .i64 s, .int .u64 q, .int .u64 e] 57)) := ⟨rfl, hv, Sole.alloc B hv (by omega) _, hB.alloc _, ho.alloc _⟩
  have HP := hid hP
  have g0 : w.cell? ⟨B, 0, none⟩ = some (.int .u64 t.term) := (hB.cell 0).trans rfl
  clear hB ho hP e1
  generalize t.term = tt at *
  go_enter Try.func30, Try.ntmps30
  go_wp2
  go_ret
  exact HP.out

set_option maxHeartbeats 400000 in
/-- Another message in this term: the votes are split. -/
theorem add30_split (B base v : Nat) (t : Tal) (hv : Value) (term s q e : Int) (w : World) (hB : Blk w B 62 (t.cells hv)) (ho : w.ownsRow base 35 1 hv t.hs.length (words t.hs)) (hb : base ≤ B) (hlt : ¬ term < t.term) (hgt : ¬ (t.term < term ∨ t.votes = 0)) (hid' : sameId s q e t.s t.q t.e = false) :
    Calls Try.prog 30 #[.pointer (some ⟨B, 0, none⟩), .int .u64 term, .agg #[.int .i64 s, .int .u64 q, .int .u64 e], .int .i64 (v : Nat)] w (AddPost w base B hv (t.add term s q e v)) := by
  have hbl := hB.lt
  have g0 : w.cell? ⟨B, 0, none⟩ = some (.int .u64 t.term) := (hB.cell 0).trans rfl
  have g1 : w.cell? ⟨B, 1, none⟩ = some (.int .i64 t.s) := (hB.cell 1).trans rfl
  have g2 : w.cell? ⟨B, 2, none⟩ = some (.int .u64 t.q) := (hB.cell 2).trans rfl
  have g3 : w.cell? ⟨B, 3, none⟩ = some (.int .u64 t.e) := (hB.cell 3).trans rfl
  have g6 : w.cell? ⟨B, 6, none⟩ = some (.int .i64 t.votes) := (hB.cell 6).trans rfl
  have g7 : w.cell? ⟨B, 7, none⟩ = some (.bool t.split) := (hB.cell 7).trans rfl
  have f7 := hB.frozen 7
  have h1 : ¬ t.term < term := fun h => hgt (.inl h)
  have h2 : (t.votes == 0) = false := by
    have : t.votes ≠ 0 := fun h => hgt (.inr h)
    simp [this]
  have qn := run_neq_id 57 (.inl rfl)
  have e1 : t.add term s q e v = (false, { t with split := true }) := by unfold Tal.add; rw [if_neg hlt, if_neg hgt, if_neg (by simp [hid'])]
  rw [e1]
  have HB := hid hB
  have HO := hid ho
  clear hB ho e1 hgt
  go_enter Try.func30, Try.ntmps30
  go_wp2
  go_quiet (fail)
  go_wp2
  go_ret
  refine ⟨rfl, hv, ((Sole.alloc B hv (by omega) _).trans (Sole.drewN base B hv _ nq)).trans (Sole.setB hv _ hb _ _), ((HB.out.alloc _).drewN nq).set 7 _, ?_⟩
  exact World.ownsRow.kept (w := (w.alloc _).drewN nq) (HO.out.alloc _) (grownBy_store _ ⟨B, 7, none⟩ _) (.inr (own_ne_blk HO.out HB.out (by decide)))

theorem had_same {low : Nat} {hs : List Nat} {v : Nat} (h : has low hs v = true) : lowAdd low v = low ∧ highAdd hs v = hs := by
  unfold has at h
  unfold lowAdd highAdd
  by_cases hv : v < 64
  · rw [if_pos hv] at h
    rw [if_pos hv, if_pos hv]
    exact ⟨or_same _ _ h, rfl⟩
  · rw [if_neg hv] at h
    rw [if_neg hv, if_neg hv]
    refine ⟨rfl, bitAdd_same ?_ ?_⟩
    · by_cases hl : (v - 64) / 64 < hs.length
      · exact hl
      · rw [getD_past (by omega)] at h
        simp at h
    · rw [show (v - 64) % 64 = v % 64 by omega]
      exact h

/-- What is left of add once the id is known to be the tally's: from a world W on. -/
theorem put_had {w W w1 : World} {base B : Nat} {t : Tal} {hv0 hv : Value} {v : Nat} (hW : Sole base B hv0 hv w W) (h : VotePost W base B (t.cells hv) hv t.low t.hs v (.returned (.bool false)) w1) :
    AddPost w base B hv0 (t.put v) (.returned (.bool false)) w1 := by
  obtain ⟨h1, hv', b1, b2, b3⟩ := h
  have hh : has t.low t.hs v = true := by
    cases hb : has t.low t.hs v with
    | true => rfl
    | false => rw [hb] at h1; simp at h1
  obtain ⟨e1, e2⟩ := had_same hh
  have e3 : t.put v = (false, t) := by unfold Tal.put; rw [hh]; rfl
  rw [e3]
  rw [e1] at b2
  rw [e2] at b3
  exact ⟨rfl, hv', hW.trans b1, b2, b3⟩

theorem put_new {w W w1 : World} {base B : Nat} {t : Tal} {hv0 hv : Value} {v : Nat} (hW : Sole base B hv0 hv w W) (hb : base ≤ B) (h : VotePost W base B (t.cells hv) hv t.low t.hs v (.returned (.bool true)) w1) :
    w1.cell? ⟨B, 6, none⟩ = some (.int .i64 t.votes) ∧ w1.frozen? ⟨B, 6, none⟩ = false ∧ AddPost w base B hv0 (t.put v) (.returned (.bool true)) (w1.setCell ⟨B, 6, none⟩ (.int .i64 (wrap64 (t.votes + 1)))) := by
  obtain ⟨h1, hv', b1, b2, b3⟩ := h
  have hh : has t.low t.hs v = false := by
    cases hb : has t.low t.hs v with
    | false => rfl
    | true => rw [hb] at h1; simp at h1
  have e3 : t.put v = (true, { t with low := lowAdd t.low v, hs := highAdd t.hs v, votes := wrap64 (t.votes + 1) }) := by unfold Tal.put; rw [hh]; rfl
  rw [e3]
  refine ⟨(b2.cell 6).trans rfl, b2.frozen 6, rfl, hv', (hW.trans b1).trans (Sole.setB hv' w1 hb _ _), b2.set 6 _, ?_⟩
  exact b3.kept (grownBy_store _ ⟨B, 6, none⟩ _) (.inr (own_ne_blk b3 b2 (by decide)))

set_option maxHeartbeats 400000 in
/-- The same message in this term. -/
theorem add30_same (B base v : Nat) (t : Tal) (hv : Value) (term s q e : Int) (w : World) (hB : Blk w B 62 (t.cells hv)) (ho : w.ownsRow base 35 1 hv t.hs.length (words t.hs)) (hb : base ≤ B) (hok : wordsOk t.hs) (hlow : t.low < 18446744073709551616) (hv2 : v ≤ 65536) (hlt : ¬ term < t.term) (hgt : ¬ (t.term < term ∨ t.votes = 0)) (hid' : sameId s q e t.s t.q t.e = true) :
    Calls Try.prog 30 #[.pointer (some ⟨B, 0, none⟩), .int .u64 term, .agg #[.int .i64 s, .int .u64 q, .int .u64 e], .int .i64 (v : Nat)] w (AddPost w base B hv (t.add term s q e v)) := by
  have hbl := hB.lt
  have g0 : w.cell? ⟨B, 0, none⟩ = some (.int .u64 t.term) := (hB.cell 0).trans rfl
  have g1 : w.cell? ⟨B, 1, none⟩ = some (.int .i64 t.s) := (hB.cell 1).trans rfl
  have g2 : w.cell? ⟨B, 2, none⟩ = some (.int .u64 t.q) := (hB.cell 2).trans rfl
  have g3 : w.cell? ⟨B, 3, none⟩ = some (.int .u64 t.e) := (hB.cell 3).trans rfl
  have g6 : w.cell? ⟨B, 6, none⟩ = some (.int .i64 t.votes) := (hB.cell 6).trans rfl
  have h1 : ¬ t.term < term := fun h => hgt (.inl h)
  have h2 : (t.votes == 0) = false := by
    have : t.votes ≠ 0 := fun h => hgt (.inr h)
    simp [this]
  have qn := run_neq_id 57 (.inl rfl)
  have e1 : t.add term s q e v = t.put v := by unfold Tal.add; rw [if_neg hlt, if_neg hgt, if_pos hid']
  rw [e1]
  have HV := hid (fun nq => vote33 B base v t.low (t.cells hv) hv t.hs ((w.alloc (.cells #[.int .i64 s, .int .u64 q, .int .u64 e] 57)).drewN nq) ((hB.alloc _).drewN nq) hb rfl rfl (ho.alloc _) hok hlow hv2)
  have HW := hid (fun nq => (Sole.alloc B hv (show base ≤ w.heap.size by omega) (.cells #[.int .i64 s, .int .u64 q, .int .u64 e] 57)).trans (Sole.drewN base B hv _ nq))
  clear hB ho e1 hgt hok
  go_enter Try.func30, Try.ntmps30
  go_wp2
  go_quiet (fail)
  go_wp2_with fail
  refine (HV.out nq).mono ?_
  rintro e' w1 hP
  obtain ⟨tb, rfl⟩ : ∃ tb, e' = .returned (.bool tb) := ⟨_, hP.1⟩
  cases tb with
  | false =>
    have HP := hid (put_had (HW.out nq) hP)
    clear hP HV HW
    go_wp2
    go_ret
    exact HP.out
  | true =>
    obtain ⟨c6, f6, hA⟩ := put_new (HW.out nq) hb hP
    have HP := hid hA
    clear hP HV HW hA
    go_wp2
    go_ret
    exact HP.out

end Go.Proofs.Qxb6603185a
