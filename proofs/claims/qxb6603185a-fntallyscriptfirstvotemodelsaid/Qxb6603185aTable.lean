/-
  FnTallyAddCaseTable: the walk.
-/
import Derived.Test.Qxb6603185aSets
import Derived.Test.Qxb6603185aWords
namespace Go.Proofs.Qxb6603185a
open Go.RowKit

def BoxedPost (w : World) (p : Prop) (e : Ending) (w' : World) : Prop := ∃ b, e = .returned (.bool b) ∧ Below w.heap.size w w' ∧ (b = true → p)

set_option maxHeartbeats 400000 in
theorem bytes18 (x0 x2 x4 x6 x8 s q e s' q' e' : Int) (x5 : Bool) (a : Option Addr) (n c : Nat) (w : World) (hn : n ≤ maxLen) :
    Calls Try.prog 18 #[.int .u64 x0, .agg #[.int .i64 s, .int .u64 q, .int .u64 e], .int .u64 x2, .slice a n c, .int .i64 x4, .bool x5, .int .u64 x6, .agg #[.int .i64 s', .int .u64 q', .int .u64 e'], .int .i64 x8] w (BoxedPost w (n ≤ 1048576)) := by
  unfold maxLen at hn
  by_cases h : 1048576 < n
  · go_enter Try.func18, Try.ntmps18
    go_wp2
    go_ret
    exact ⟨false, rfl, ((Below.refl _ _).alloc (Nat.le_refl _) _).alloc (by simp) _, fun h => by cases h⟩
  · go_enter Try.func18, Try.ntmps18
    go_wp2
    go_ret
    exact ⟨true, rfl, ((Below.refl _ _).alloc (Nat.le_refl _) _).alloc (by simp) _, fun _ => by omega⟩

/-- How many words the voter wants. -/
def need (v : Nat) : Nat := if v < 64 then 0 else (v - 64) / 64 + 1

/-- A block of three cells. -/
def Box (w : World) (B : Nat) (s q e : Int) : Prop := w.cell? ⟨B, 0, none⟩ = some (.int .i64 s) ∧ w.cell? ⟨B, 1, none⟩ = some (.int .u64 q) ∧ w.cell? ⟨B, 2, none⟩ = some (.int .u64 e)

theorem Box.below {w w' : World} {B k : Nat} {s q e : Int} (h : Box w B s q e) (hb : Below k w w') (hk : B < k) : Box w' B s q e :=
  ⟨(hb.cell (p := ⟨B, 0, none⟩) hk).trans h.1, (hb.cell (p := ⟨B, 1, none⟩) hk).trans h.2.1, (hb.cell (p := ⟨B, 2, none⟩) hk).trans h.2.2⟩

theorem Box.lt {w : World} {B : Nat} {s q e : Int} (h : Box w B s q e) : B < w.heap.size := World.block_lt_of_cell? _ _ h.1

/-- The words of a copy. -/
def wordsOf (n : Nat) (H : Nat → Nat) : List Nat := (List.range n).map H
theorem wordsOf_length (n : Nat) (H : Nat → Nat) : (wordsOf n H).length = n := by simp [wordsOf]
theorem wordsOf_getD (n : Nat) (H : Nat → Nat) {j : Nat} (h : j < n) : (wordsOf n H).getD j 0 = H j := by
  simp [wordsOf, List.getD_eq_getElem?_getD, h]
theorem wordsOf_ok (n : Nat) (H : Nat → Nat) (h : ∀ j, j < n → H j < 18446744073709551616) : wordsOk (wordsOf n H) := by
  intro x hx
  obtain ⟨j, hj, rfl⟩ := List.mem_map.1 hx
  exact h j (by simpa using hj)

theorem copy_owned {w w' : World} {n : Nat} {H : Nat → Nat} {ao : Option Addr} (h : (ao = none ∧ n = 0) ∨ (ao = some ⟨w.heap.size, 0, none⟩ ∧ w'.rowIs w.heap.size 35 n (fun j => .int .u64 (H j : Nat)))) (hn : n ≤ maxLen) :
    w'.ownsRow w.heap.size 35 1 (.slice ao n n) n (words (wordsOf n H)) := by
  rcases h with ⟨rfl, rfl⟩ | ⟨rfl, c, h1, h2, h3⟩
  · exact World.ownsRow_nil _ _ _ _
  · refine ⟨by simp [words, wordsOf], .inr ⟨w.heap.size, n, c, rfl, Nat.le_refl _, h1, Nat.le_refl _, hn, by simp [h2], ?_⟩⟩
    apply List.ext_getElem?
    intro i
    rw [Nat.mul_one, List.getElem?_take]
    by_cases hi : i < n
    · rw [if_pos hi]
      have := h3 i hi
      simp [words, wordsOf, hi]
      simpa using this
    · rw [if_neg hi]
      simp [words, wordsOf, hi]

theorem CellsAt.below' {w w' : World} {ao : Option Addr} {n : Nat} {V : Nat → Value} (h : CellsAt w ao n V) (hb : Below w.heap.size w w') : CellsAt w' ao n V := by
  rcases h with h | ⟨b, off, h1, h2⟩
  · exact .inl h
  · refine .inr ⟨b, off, h1, fun r hr => ?_⟩
    have hlt : b < w.heap.size := World.block_lt_of_cell? _ _ (h2 r hr)
    exact (hb.cell (p := ⟨b, off + r, none⟩) hlt).trans (h2 r hr)

/-- What is known once both copies lie: in whatever world ZZTallyAdd leaves. -/
structure Laid (w w1 w3 : World) (n : Nat) (H : Nat → Nat) (ao ar : Option Addr) (ts tq te s q e : Int) : Prop where
  below : Below w.heap.size w w3
  size : w1.heap.size ≤ w3.heap.size
  own : w3.ownsRow w1.heap.size 35 1 (.slice ao n n) n (words (wordsOf n H))
  b1 : Box w3 w.heap.size ts tq te
  b2 : Box w3 (w.heap.size + 1) s q e
  lt : w.heap.size + 1 < w1.heap.size
  ref : n = 0 ∨ ∃ R, ar = some ⟨R, 0, none⟩ ∧ R < w3.heap.size ∧ w1.heap.size < R ∧ (∀ k, (Value.slice ao n n).ownBlock = some k → k < R) ∧ w3.rowIs R 35 n (fun j => .int .u64 (H j : Nat))

theorem table_frame {w w1 w2 w3 : World} {n : Nat} {H : Nat → Nat} {ao ar : Option Addr} {ts tq te s q e : Int} (B1 : Below w.heap.size w w1) (B2 : Below w1.heap.size w1 w2) (B3 : Below w2.heap.size w2 w3)
    (x1 : Box w1 w.heap.size ts tq te) (x2 : Box w1 (w.heap.size + 1) s q e) (o2 : w2.ownsRow w1.heap.size 35 1 (.slice ao n n) n (words (wordsOf n H)))
    (r2 : (ao = none ∧ n = 0) ∨ (ao = some ⟨w1.heap.size, 0, none⟩ ∧ w2.rowIs w1.heap.size 35 n (fun j => .int .u64 (H j : Nat)))) (r3 : (ar = none ∧ n = 0) ∨ (ar = some ⟨w2.heap.size, 0, none⟩ ∧ w3.rowIs w2.heap.size 35 n (fun j => .int .u64 (H j : Nat)))) :
    Laid w w1 w3 n H ao ar ts tq te s q e := by
  have l2 := x2.lt
  have s2 := B2.size
  have s3 := B3.size
  have B13 : Below w1.heap.size w1 w3 := B2.trans (B3.mono s2)
  refine ⟨B1.trans (B13.mono B1.size), by omega, ?_, x1.below B13 x1.lt, x2.below B13 l2, l2, ?_⟩
  · refine World.ownsRow.kept (row := none) o2 ⟨B3.os, B3.tape, B3.output, B3.size, fun k hk _ => B3.block k hk⟩ ?_
    cases hv : (Value.slice ao n n).ownBlock with
    | none => exact .inl rfl
    | some k => right; simp
  · rcases r3 with ⟨_, h⟩ | ⟨h1, h2⟩
    · exact .inl h
    · rcases r2 with ⟨_, h⟩ | ⟨h3, h4⟩
      · exact .inl h
      · right
        have l4 := h4.lt
        refine ⟨w2.heap.size, h1, h2.lt, l4, fun k hk => ?_, h2⟩
        rw [h3] at hk
        have : w1.heap.size = k := by simpa [Value.ownBlock] using hk
        omega

/-- .. and what is known behind it. -/
structure After (w W : World) (N n : Nat) (H : Nat → Nat) (ar a' : Option Addr) (hs' : List Nat) (ts tq te s q e ns nq ne : Int) : Prop where
  below : Below w.heap.size w W
  b1 : Box W w.heap.size ts tq te
  b2 : Box W (w.heap.size + 1) s q e
  b3 : Box W N ns nq ne
  ref : WordsAt W ar (wordsOf n H)
  got : WordsAt W a' hs'

theorem Laid.after {w w1 w3 w4 : World} {n : Nat} {H : Nat → Nat} {ao ar a' : Option Addr} {ts tq te s q e : Int} {hs' : List Nat} {cap' : Nat} (h : Laid w w1 w3 n H ao ar ts tq te s q e)
    (hs : Sole w1.heap.size w3.heap.size (.slice ao n n) (.slice a' hs'.length cap') w3 w4) (ho : w4.ownsRow w1.heap.size 35 1 (.slice a' hs'.length cap') hs'.length (words hs')) (ns nq ne : Int) :
    After w (w4.alloc (.cells #[.int .i64 ns, .int .u64 nq, .int .u64 ne] 39)) w4.heap.size n H ar a' hs' ts tq te s q e ns nq ne := by
  have l := h.lt
  have l1 := h.b1.lt
  have l2 := h.b2.lt
  have s4 := hs.below.size
  have hsz := h.size
  have B : Below w1.heap.size w3 (w4.alloc (.cells #[.int .i64 ns, .int .u64 nq, .int .u64 ne] 39)) := hs.below.alloc (by omega) _
  have B4 : Below w4.heap.size w4 (w4.alloc (.cells #[.int .i64 ns, .int .u64 nq, .int .u64 ne] 39)) := (Below.refl _ _).alloc (Nat.le_refl _) _
  refine ⟨h.below.trans (B.mono (by omega)), h.b1.below B (by omega), h.b2.below B (by omega), ⟨by simp, by simp, by simp⟩, ?_, (own_words ho).below B4 (Nat.le_refl _)⟩
  rcases h.ref with h0 | ⟨R, h1, h2, h3, h4, h5⟩
  · exact .inl (by rw [wordsOf_length]; exact h0)
  · have hk := (hs.keep R h2 (by omega) (fun e => by have := h4 R e; omega)).1
    have h6 := h5.of_block hk
    refine WordsAt.below (w := w4) ?_ B4 (Nat.le_refl _)
    refine .inr ⟨R, 0, h1, fun j hj => ?_⟩
    rw [wordsOf_length] at hj
    show _ = some (Value.int .u64 (((wordsOf n H).getD j 0 : Nat) : Int))
    rw [Nat.zero_add, h6.cell hj, wordsOf_getD n H hj]

theorem After.drewN {w W : World} {N n : Nat} {H : Nat → Nat} {ar a' : Option Addr} {hs' : List Nat} {ts tq te s q e ns nq ne : Int} (h : After w W N n H ar a' hs' ts tq te s q e ns nq ne) (m : Nat) : After w (W.drewN m) N n H ar a' hs' ts tq te s q e ns nq ne :=
  ⟨below_drewN h.below m, h.b1, h.b2, h.b3, h.ref.drewN m, h.got.drewN m⟩

/-! ### What the plain add gives, case by case -/
theorem add_old {tt ts tq te tv term s q e : Int} {tl v : Nat} {ths : List Nat} {tsp : Bool} (h : term < tt) : Tal.add ⟨tt, ts, tq, te, tl, ths, tv, tsp⟩ term s q e v = (false, ⟨tt, ts, tq, te, tl, ths, tv, tsp⟩) := by
  unfold Tal.add; rw [if_pos h]
theorem add_reset {tt ts tq te tv term s q e : Int} {tl v : Nat} {ths : List Nat} {tsp : Bool} (h : ¬ term < tt) (h2 : tt < term ∨ tv = 0) : Tal.add ⟨tt, ts, tq, te, tl, ths, tv, tsp⟩ term s q e v = (true, ⟨term, s, q, e, lowAdd 0 v, highAdd [] v, 1, false⟩) := by
  unfold Tal.add; rw [if_neg h, if_pos h2]
  have e1 : wrap64 1 = 1 := by unfold wrap64; decide
  simp [Tal.put, Tal.fresh, has_none, e1]
theorem add_split {tt ts tq te tv term s q e : Int} {tl v : Nat} {ths : List Nat} {tsp : Bool} (h : ¬ term < tt) (h2 : ¬ (tt < term ∨ tv = 0)) (h3 : sameId s q e ts tq te = false) : Tal.add ⟨tt, ts, tq, te, tl, ths, tv, tsp⟩ term s q e v = (false, ⟨tt, ts, tq, te, tl, ths, tv, true⟩) := by
  unfold Tal.add; rw [if_neg h, if_neg h2, if_neg (by simp [h3])]
theorem add_had {tt ts tq te tv term s q e : Int} {tl v : Nat} {ths : List Nat} {tsp : Bool} (h : ¬ term < tt) (h2 : ¬ (tt < term ∨ tv = 0)) (h3 : sameId s q e ts tq te = true) (h4 : has tl ths v = true) : Tal.add ⟨tt, ts, tq, te, tl, ths, tv, tsp⟩ term s q e v = (false, ⟨tt, ts, tq, te, tl, ths, tv, tsp⟩) := by
  unfold Tal.add; rw [if_neg h, if_neg h2, if_pos h3]
  simp [Tal.put, h4]
theorem add_new {tt ts tq te tv term s q e : Int} {tl v : Nat} {ths : List Nat} {tsp : Bool} (h : ¬ term < tt) (h2 : ¬ (tt < term ∨ tv = 0)) (h3 : sameId s q e ts tq te = true) (h4 : has tl ths v = false) : Tal.add ⟨tt, ts, tq, te, tl, ths, tv, tsp⟩ term s q e v = (true, ⟨tt, ts, tq, te, lowAdd tl v, highAdd ths v, wrap64 (tv + 1), tsp⟩) := by
  unfold Tal.add; rw [if_neg h, if_neg h2, if_pos h3]
  simp [Tal.put, h4]

theorem highAdd_length (hs : List Nat) (v : Nat) : (highAdd hs v).length = if hs.length < need v then need v else hs.length := by
  unfold highAdd need
  by_cases h : v < 64
  · rw [if_pos h, if_pos h]
    split <;> omega
  · rw [if_neg h, if_neg h, bitAdd_length]

theorem highAdd_nil (v : Nat) : (highAdd [] v).length = need v := by
  rw [highAdd_length]
  show (if 0 < need v then need v else 0) = need v
  split <;> omega

/-- Whatever happens, the words stay words and no more than wanted. -/
theorem add_ok {tt ts tq te tv term s q e : Int} {tl v : Nat} {ths : List Nat} {tsp : Bool} (hok : wordsOk ths) (hlow : tl < 18446744073709551616) : wordsOk (Tal.add ⟨tt, ts, tq, te, tl, ths, tv, tsp⟩ term s q e v).2.hs ∧ (Tal.add ⟨tt, ts, tq, te, tl, ths, tv, tsp⟩ term s q e v).2.low < 18446744073709551616 ∧ ((Tal.add ⟨tt, ts, tq, te, tl, ths, tv, tsp⟩ term s q e v).2.hs.length ≤ ths.length ∨ (Tal.add ⟨tt, ts, tq, te, tl, ths, tv, tsp⟩ term s q e v).2.hs.length ≤ need v) := by
  have hl := highAdd_length ths v
  by_cases h1 : term < tt
  · rw [add_old h1]; exact ⟨hok, hlow, .inl (Nat.le_refl _)⟩
  by_cases h2 : tt < term ∨ tv = 0
  · rw [add_reset h1 h2]
    exact ⟨highAdd_ok (by intro x hx; cases hx) v, lowAdd_lt (by decide) v, .inr (by rw [highAdd_nil]; exact Nat.le_refl _)⟩
  cases h3 : sameId s q e ts tq te with
  | false => rw [add_split h1 h2 h3]; exact ⟨hok, hlow, .inl (Nat.le_refl _)⟩
  | true =>
    cases h4 : has tl ths v with
    | true => rw [add_had h1 h2 h3 h4]; exact ⟨hok, hlow, .inl (Nat.le_refl _)⟩
    | false =>
      rw [add_new h1 h2 h3 h4]
      refine ⟨highAdd_ok hok v, lowAdd_lt hlow v, ?_⟩
      show (highAdd ths v).length ≤ ths.length ∨ (highAdd ths v).length ≤ need v
      rw [hl]
      split <;> omega

theorem need_le {v : Nat} (h : v ≤ 65536) : need v ≤ 1024 := by
  unfold need
  split <;> omega

set_option maxHeartbeats 1000000 in
set_option maxRecDepth 100000 in
theorem table5 (tt ts tq te tv : Int) (tl : Nat) (tsp : Bool) (n c : Nat) (a : Option Addr) (H : Nat → Nat) (term s q e vt : Int) (w : World) (m0 : n ≤ maxLen) (z0 : a = none → n = 0) (h0 : CellsAt w a n (fun j => .int .u64 (H j : Nat))) (hH : ∀ j, j < n → H j < 18446744073709551616)
    (hlow : tl < 18446744073709551616) :
    Calls Try.prog 5 #[.int .u64 tt, .agg #[.int .i64 ts, .int .u64 tq, .int .u64 te], .int .u64 (tl : Nat), .slice a n c, .int .i64 tv, .bool tsp, .int .u64 term, .agg #[.int .i64 s, .int .u64 q, .int .u64 e], .int .i64 vt] w fun e w' => e = .returned (.bool true) ∧ Below w.heap.size w w' := by
  have H18 := hid (fun w => bytes18 tt (tl : Nat) tv term vt ts tq te s q e tsp a n c w m0)
  have H0 := hid h0
  have HZ := hid z0
  have HH := hid hH
  clear h0 z0 hH
  go_enter Try.func5, Try.ntmps5
  go_wp2_with fail
  refine (H18.out _).mono ?_
  rintro e' w1 ⟨bb, rfl, hB1, hb⟩
  have b1 : Box w1 w.heap.size ts tq te := Box.below (w := (w.alloc (.cells #[.int .i64 ts, .int .u64 tq, .int .u64 te] 39)).alloc (.cells #[.int .i64 s, .int .u64 q, .int .u64 e] 39)) ⟨by simp, by simp, by simp⟩ hB1 (by simp; omega)
  have b2 : Box w1 (w.heap.size + 1) s q e := Box.below (w := (w.alloc (.cells #[.int .i64 ts, .int .u64 tq, .int .u64 te] 39)).alloc (.cells #[.int .i64 s, .int .u64 q, .int .u64 e] 39)) ⟨by simp, by simp, by simp⟩ hB1 (by simp)
  have HB1 : Hid (Below w.heap.size w w1) := (((Below.refl _ _).alloc (Nat.le_refl _) _).alloc (by simp) _).trans (hB1.mono (by simp; omega))
  clear hB1 H18
  cases bb with
  | false =>
    clear hb b1 b2
    go_wp2
    go_ret
    exact ⟨rfl, HB1.out⟩
  | true =>
    have hn1 : n ≤ 1048576 := hb rfl
    clear hb m0
    by_cases hn2 : 65536 < n
    · clear b1 b2
      go_wp2
      go_ret
      exact ⟨rfl, HB1.out⟩
    by_cases hv0 : vt < 0
    · clear b1 b2
      go_wp2
      go_ret
      exact ⟨rfl, HB1.out⟩
    by_cases hv1 : 65536 < vt
    · clear b1 b2
      go_wp2
      go_ret
      exact ⟨rfl, HB1.out⟩
    obtain ⟨v, rfl⟩ : ∃ v : Nat, vt = v := ⟨vt.toNat, by omega⟩
    have hv2 : v ≤ 65536 := by omega
    have HX1 := hid b1
    have HX2 := hid b2
    clear b1 b2
    have C15 := hid (copy15 a n c (fun j => ((H j : Nat) : Int)) w1 (by omega) HZ.out (CellsAt.below' H0.out HB1.out))
    go_wp2_with fail
    refine C15.out.mono ?_
    rintro e' w2 ⟨ao, rfl, hB2, hr2⟩
    have C15' := hid (copy15 ao n n (fun j => ((H j : Nat) : Int)) w2 (by omega) (fun hh => by rcases hr2 with ⟨_, h⟩ | ⟨h, _⟩; exact h; rw [hh] at h; cases h) (cells_of_row hr2))
    have HO2 := hid (copy_owned (H := H) hr2 (by unfold maxLen; omega))
    have HR2 := hid hr2
    have HB2 := hid hB2
    clear hB2 hr2 C15 H0 HZ
    go_wp2_with fail
    refine C15'.out.mono ?_
    rintro e' w3 ⟨ar, rfl, hB3, hr3⟩
    have HF := hid (table_frame HB1.out HB2.out hB3 HX1.out HX2.out HO2.out HR2.out hr3)
    obtain ⟨x1, x2, x3⟩ := HF.out.b1
    obtain ⟨y1, y2, y3⟩ := HF.out.b2
    have H19 := tally19 w1.heap.size v ⟨tt, ts, tq, te, tl, wordsOf n H, tv, tsp⟩ ao n term s q e w3 (by rw [wordsOf_length]; exact HF.out.own) HF.out.size (wordsOf_ok n H HH.out) hlow hv2
    simp only [wordsOf_length] at H19
    have hok := add_ok (tt := tt) (ts := ts) (tq := tq) (te := te) (tv := tv) (term := term) (s := s) (q := q) (e := e) (v := v) (tsp := tsp) (wordsOf_ok n H HH.out) hlow
    rw [wordsOf_length] at hok
    have hnl := need_le hv2
    have HC := hid H19
    generalize hr : Tal.add ⟨tt, ts, tq, te, tl, wordsOf n H, tv, tsp⟩ term s q e v = r at *
    obtain ⟨rb, r1, r2, r3, r4, r5, rhs, r7, r8⟩ := r
    simp only at hok HC
    have HOk : Hid (wordsOk rhs ∧ r5 < 18446744073709551616 ∧ rhs.length ≤ 1048576) := ⟨hok.1, hok.2.1, by rcases hok.2.2 with h | h <;> omega⟩
    have HR := hid hr
    clear hr hok H19 hnl hB3 hr3 C15' HX1 HX2 HO2 HR2 HB1 HB2
    go_wp2_with fail
    refine HC.out.mono ?_
    rintro e' w4 ⟨a', cap', rfl, hS, hO⟩
    have HA := hid (HF.out.after hS hO r2 r3 r4)
    clear hS hO HC HF x1 x2 x3 y1 y2 y3
    go_upto_if 92 with (fail)
    go_cut [30] from 33 to 96 (fun k wc => wc = w4.alloc (.cells #[.int .i64 r2, .int .u64 r3, .int .u64 r4] 39) ∧ k = .int .i64 (need v : Nat))
    case first =>
      by_cases hv : v < 64
      · have hnd : need v = 0 := by unfold need; rw [if_pos hv]
        have HN := hid hnd
        clear hnd
        go_wp2
        go_meet
        case rel => exact ⟨rfl, by rw [HN.out]; rfl⟩
      · have hnd : need v = (v - 64) / 64 + 1 := by unfold need; rw [if_neg hv]
        have HN := hid hnd
        clear hnd
        go_wp2
        go_meet
        case rel => exact ⟨rfl, by rw [HN.out]; go_num⟩
    case rest =>
      obtain ⟨hwc, rfl⟩ := hcut
      rw [← hwc] at HA
      clear hwc
      obtain ⟨wp, rfl⟩ : ∃ wp, wp = wc := ⟨_, rfl⟩
      have HE := hid (fun m => eq20 a' ar cap' n rhs (wordsOf n H) (wp.drewN m) (HA.out.got.drewN m) (HA.out.ref.drewN m) (by have := HOk.out.2.2; omega) (by rw [wordsOf_length]; omega))
      simp only [wordsOf_length] at HE
      obtain ⟨x1, x2, x3⟩ := HA.out.b1
      obtain ⟨y1, y2, y3⟩ := HA.out.b3
      have qe := run_eql_id 39 (.inr rfl)
      have HU : Hid ((r1 = tt ∧ r2 = ts ∧ r3 = tq ∧ r4 = te ∧ r5 = tl ∧ rhs = wordsOf n H ∧ r7 = tv) → (r1 == tt) = true ∧ sameId r2 r3 r4 ts tq te = true ∧ ((r5 : Int) == (tl : Int)) = true ∧ (r7 == tv) = true) := by
        rintro ⟨rfl, rfl, rfl, rfl, rfl, _, rfl⟩
        simp [sameId]
      go_upto_region 14 with (fail)
      go_cut [31] from 97 to 119 (fun k wd => ∃ (b : Bool) (m : Nat), k = .bool b ∧ wd = wp.drewN m ∧ Hid ((r1 = tt ∧ r2 = ts ∧ r3 = tq ∧ r4 = te ∧ r5 = tl ∧ rhs = wordsOf n H ∧ r7 = tv) → b = true))
      case first =>
        generalize hb1 : (r1 == tt) = b1 at *
        generalize hb2 : sameId r2 r3 r4 ts tq te = b2 at *
        generalize hb3 : ((r5 : Int) == (tl : Int)) = b3 at *
        generalize hb5 : (r7 == tv) = b5 at *
        cases b1 with
        | false =>
          go_wp2
          go_meet
          case rel => exact ⟨false, 0, rfl, rfl, fun hu => absurd (HU.out hu).1 (by simp)⟩
        | true =>
          cases b2 with
          | false =>
            go_wp2
            go_meet
            case rel => exact ⟨false, 0, rfl, rfl, fun hu => absurd (HU.out hu).2.1 (by simp)⟩
          | true =>
            cases b3 with
            | false =>
              go_wp2
              go_meet
              case rel => exact ⟨false, 0, rfl, rfl, fun hu => absurd (HU.out hu).2.2.1 (by simp)⟩
            | true =>
              go_wp2_with fail
              refine (HE.out 0).mono ?_
              rintro e' w5 ⟨b4, m, rfl, hw5, hb4⟩
              have H4 := hid hb4
              have HW := hid hw5
              clear hb4 hw5
              cases b4 with
              | false =>
                go_wp2
                go_meet
                case rel => exact ⟨false, m, rfl, HW.out, fun hu => H4.out hu.2.2.2.2.2.1⟩
              | true =>
                go_wp2
                go_meet
                case rel => exact ⟨b5, m, rfl, HW.out, fun hu => (HU.out hu).2.2.2⟩
      case rest =>
        obtain ⟨bu, m, rfl, hwd, HBu⟩ := hcut
        have HA' := hid (HA.out.drewN m)
        rw [← hwd] at HA'
        clear hwd HA HE HU x1 x2 x3 y1 y2 y3
        obtain ⟨x1, x2, x3⟩ := HA'.out.b1
        obtain ⟨y1, y2, y3⟩ := HA'.out.b3
        obtain ⟨z1, z2, z3⟩ := HA'.out.b2
        have qn := run_neq_id 39 (.inr rfl)
        by_cases h1 : term < tt
        · have e1 := HR.out
          rw [add_old h1] at e1
          injection e1 with e1 e2
          injection e2 with e2 e3 e4 e5 e6 e7 e8 e9
          subst e1 e2 e3 e4 e5 e6 e7 e8 e9
          obtain rfl : bu = true := HBu.out ⟨rfl, rfl, rfl, rfl, rfl, rfl, rfl⟩
          go_wp2
          go_ret
          exact ⟨rfl, HA'.out.below⟩
        by_cases h2 : tt < term ∨ tv = 0
        · have e1 := HR.out
          rw [add_reset h1 h2] at e1
          injection e1 with e1 e2
          injection e2 with e2 e3 e4 e5 e6 e7 e8 e9
          subst e1 e2 e3 e4 e5 e6 e7 e8 e9
          have H21 : Hid (Calls Try.prog 21 #[.int .u64 (lowAdd 0 v : Nat), .slice a' (highAdd [] v).length cap', .int .u64 0, .slice none 0 0, .int .i64 (v : Nat)] wc fun e w' => e = .returned (.bool true) ∧ w' = wc) :=
            setIs21 (lowAdd 0 v) 0 cap' 0 v a' none (highAdd [] v) [] wc HA'.out.got (.inl rfl) HOk.out.1 (by intro x hx; cases hx) HOk.out.2.1 (by decide) HOk.out.2.2 (Nat.zero_le _) hv2 (fun u => has_add 0 [] v u)
          have hq : (((highAdd [] v).length : Int) == (need v : Int)) = true := by rw [highAdd_nil]; simp
          have qs := sameId_self s q e
          clear HBu HR HOk
          generalize lowAdd 0 v = gl at *
          generalize (highAdd [] v).length = gn at *
          generalize need v = nd at *
          by_cases h2a : tt < term
          · clear h2
            go_wp2_with (go_at_call 21; refine H21.out.mono ?_; rintro e' w' ⟨rfl, hw⟩; subst hw)
            go_ret
            exact ⟨rfl, HA'.out.below⟩
          · have h2b : (tv == 0) = true := by
              rcases h2 with h | h
              · exact absurd h h2a
              · simp [h]
            clear h2
            go_wp2_with (go_at_call 21; refine H21.out.mono ?_; rintro e' w' ⟨rfl, hw⟩; subst hw)
            go_ret
            exact ⟨rfl, HA'.out.below⟩
        have h2a : ¬ tt < term := fun h => h2 (.inl h)
        have h2b : (tv == 0) = false := by
          have : tv ≠ 0 := fun h => h2 (.inr h)
          simp [this]
        cases h3 : sameId s q e ts tq te with
        | false =>
          have e1 := HR.out
          rw [add_split h1 h2 h3] at e1
          injection e1 with e1 e2
          injection e2 with e2 e3 e4 e5 e6 e7 e8 e9
          subst e1 e2 e3 e4 e5 e6 e7 e8 e9
          obtain rfl : bu = true := HBu.out ⟨rfl, rfl, rfl, rfl, rfl, rfl, rfl⟩
          clear h2
          go_wp2
          go_ret
          exact ⟨rfl, HA'.out.below⟩
        | true =>
          have H22 := hid (has22 tl v n ar (wordsOf n H) wc HA'.out.ref (wordsOf_ok n H HH.out) hlow (by omega) (by rw [wordsOf_length]; omega))
          rw [wordsOf_length] at H22
          cases h4 : has tl (wordsOf n H) v with
          | true =>
            have e1 := HR.out
            rw [add_had h1 h2 h3 h4] at e1
            injection e1 with e1 e2
            injection e2 with e2 e3 e4 e5 e6 e7 e8 e9
            subst e1 e2 e3 e4 e5 e6 e7 e8 e9
            obtain rfl : bu = true := HBu.out ⟨rfl, rfl, rfl, rfl, rfl, rfl, rfl⟩
            rw [h4] at H22
            clear h2 h4
            go_wp2_with (go_at_call 22; refine H22.out.mono ?_; rintro e' w' ⟨rfl, hw⟩; subst hw)
            go_ret
            exact ⟨rfl, HA'.out.below⟩
          | false =>
            have e1 := HR.out
            rw [add_new h1 h2 h3 h4] at e1
            injection e1 with e1 e2
            injection e2 with e2 e3 e4 e5 e6 e7 e8 e9
            subst e1 e2 e3 e4 e5 e6 e7 e8 e9
            have H21 := setIs21 (lowAdd tl v) tl cap' n v a' ar (highAdd (wordsOf n H) v) (wordsOf n H) wc HA'.out.got HA'.out.ref HOk.out.1 (wordsOf_ok n H HH.out) HOk.out.2.1 hlow HOk.out.2.2 (by rw [wordsOf_length]; omega) hv2 (fun u => has_add tl (wordsOf n H) v u)
            have hgl := highAdd_length (wordsOf n H) v
            rw [wordsOf_length] at H21 hgl
            have H21' := hid H21
            have qs := sameId_self ts tq te
            rw [h4] at H22
            clear HBu HR HOk H21 h2 h4
            generalize lowAdd tl v = gl at *
            generalize (highAdd (wordsOf n H) v).length = gn at *
            generalize need v = nd at *
            by_cases hc : n < nd
            · rw [if_pos hc] at hgl
              have hq : ((gn : Int) == (nd : Int)) = true := by rw [hgl]; simp
              clear hgl
              go_wp2_with (first | (go_at_call 22; refine H22.out.mono ?_; rintro e' w' ⟨rfl, hw⟩; subst hw) | (go_at_call 21; refine H21'.out.mono ?_; rintro e' w' ⟨rfl, hw⟩; subst hw))
              go_ret
              exact ⟨rfl, HA'.out.below⟩
            · rw [if_neg hc] at hgl
              have hq : ((gn : Int) == (n : Int)) = true := by rw [hgl]; simp
              clear hgl
              go_wp2_with (first | (go_at_call 22; refine H22.out.mono ?_; rintro e' w' ⟨rfl, hw⟩; subst hw) | (go_at_call 21; refine H21'.out.mono ?_; rintro e' w' ⟨rfl, hw⟩; subst hw))
              go_ret
              exact ⟨rfl, HA'.out.below⟩

end Go.Proofs.Qxb6603185a
