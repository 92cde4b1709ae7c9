/-
  ZZTallyAdd.
-/
import Derived.Test.Qxb6603185aReset
namespace Go.Proofs.Qxb6603185a
open Go.RowKit

theorem own_shape {w : World} {base n : Nat} {v : Value} {xs : List Value} (h : w.ownsRow base 35 1 v n xs) : ∃ a cap, v = .slice a n cap := by
  rcases h.2 with ⟨e1, e2⟩ | ⟨g, cap, cur, e1, _⟩
  · exact ⟨none, 0, by rw [e1, e2]⟩
  · exact ⟨_, _, e1⟩

theorem add30 (B base v : Nat) (t : Tal) (hv : Value) (term s q e : Int) (w : World) (hB : Blk w B 62 (t.cells hv)) (ho : w.ownsRow base 35 1 hv t.hs.length (words t.hs)) (hb : base ≤ B) (hok : wordsOk t.hs) (hlow : t.low < 18446744073709551616) (hv2 : v ≤ 65536) :
    Calls Try.prog 30 #[.pointer (some ⟨B, 0, none⟩), .int .u64 term, .agg #[.int .i64 s, .int .u64 q, .int .u64 e], .int .i64 (v : Nat)] w (AddPost w base B hv (t.add term s q e v)) := by
  by_cases hlt : term < t.term
  · exact add30_old B base v t hv term s q e w hB ho hb hlt
  · by_cases hgt : t.term < term ∨ t.votes = 0
    · obtain ⟨a, cap, rfl⟩ := own_shape ho
      exact add30_reset B base v t a t.hs.length cap term s q e w hB ho hb hv2 hlt hgt
    · cases hi : sameId s q e t.s t.q t.e with
      | true => exact add30_same B base v t hv term s q e w hB ho hb hok hlow hv2 hlt hgt hi
      | false => exact add30_split B base v t hv term s q e w hB ho hb hlt hgt hi

def TallyPost (w : World) (base : Nat) (hv : Value) (r : Bool × Tal) (e : Ending) (w' : World) : Prop :=
  ∃ a cap, e = .returned (.tuple #[.bool r.1, .int .u64 r.2.term, .int .i64 r.2.s, .int .u64 r.2.q, .int .u64 r.2.e, .int .u64 (r.2.low : Nat), .slice a r.2.hs.length cap, .int .i64 r.2.votes, .bool r.2.split]) ∧
    Sole base w.heap.size hv (.slice a r.2.hs.length cap) w w' ∧ w'.ownsRow base 35 1 (.slice a r.2.hs.length cap) r.2.hs.length (words r.2.hs)

set_option maxHeartbeats 800000 in
theorem tally19 (base v : Nat) (t : Tal) (a : Option Addr) (cap : Nat) (term s q e : Int) (w : World) (ho : w.ownsRow base 35 1 (.slice a t.hs.length cap) t.hs.length (words t.hs)) (hb : base ≤ w.heap.size) (hok : wordsOk t.hs) (hlow : t.low < 18446744073709551616) (hv2 : v ≤ 65536) :
    Calls Try.prog 19 #[.int .u64 t.term, .int .i64 t.s, .int .u64 t.q, .int .u64 t.e, .int .u64 (t.low : Nat), .slice a t.hs.length cap, .int .i64 t.votes, .bool t.split, .int .u64 term, .int .i64 s, .int .u64 q, .int .u64 e, .int .i64 (v : Nat)] w (TallyPost w base (.slice a t.hs.length cap) (t.add term s q e v)) := by
  have H := hid (add30 w.heap.size base v t (.slice a t.hs.length cap) term s q e (w.alloc (.cells #[.int .u64 t.term, .int .i64 t.s, .int .u64 t.q, .int .u64 t.e, .int .u64 (t.low : Nat), .slice a t.hs.length cap, .int .i64 t.votes, .bool t.split] 62)) (by show (w.heap.push _)[w.heap.size]? = _; simp [Tal.cells]) (ho.alloc _) hb hok hlow hv2)
  have HB := hid (Sole.alloc w.heap.size (.slice a t.hs.length cap) hb (.cells #[.int .u64 t.term, .int .i64 t.s, .int .u64 t.q, .int .u64 t.e, .int .u64 (t.low : Nat), .slice a t.hs.length cap, .int .i64 t.votes, .bool t.split] 62))
  clear ho hok hlow
  generalize t.add term s q e v = r at *
  obtain ⟨t1, t2, t3, t4, t5, ths, t7, t8⟩ := t
  simp only at H HB ⊢
  generalize ths.length = n at *
  go_enter Try.func19, Try.ntmps19
  go_wp2_with fail
  refine H.out.mono ?_
  rintro e' w1 ⟨rfl, hv', b1, b2, b3⟩
  obtain ⟨a', cap', rfl⟩ := own_shape b3
  obtain ⟨c0, c1, c2, c3, c4, c5, c6, c7⟩ := tal_cells b2
  have HB1 := hid (HB.out.trans b1)
  have HO1 := hid b3
  clear b1 b2 b3 H HB
  obtain ⟨rb, r1, r2, r3, r4, r5, rhs, r7, r8⟩ := r
  simp only at c0 c1 c2 c3 c4 c5 c6 c7 HO1 ⊢
  have HP : Hid (∀ nq, TallyPost w base (.slice a n cap) (rb, ⟨r1, r2, r3, r4, r5, rhs, r7, r8⟩) (.returned (.tuple #[.bool rb, .int .u64 r1, .int .i64 r2, .int .u64 r3, .int .u64 r4, .int .u64 (r5 : Nat), .slice a' rhs.length cap', .int .i64 r7, .bool r8])) (w1.drewN nq)) := fun nq => ⟨a', cap', rfl, HB1.out.trans (Sole.drewN base w.heap.size _ w1 nq), HO1.out⟩
  clear HB1 HO1
  generalize rhs.length = n' at *
  go_wp2
  go_quiet (fail)
  go_wp2
  exact bodyPost_ret (v := .tuple #[.bool rb, .int .u64 r1, .int .i64 r2, .int .u64 r3, .int .u64 r4, .int .u64 (r5 : Nat), .slice a' n' cap', .int .i64 r7, .bool r8]) (by simp [results, Try.results19, go_sem]) rfl (HP.out nq)

end Go.Proofs.Qxb6603185a
