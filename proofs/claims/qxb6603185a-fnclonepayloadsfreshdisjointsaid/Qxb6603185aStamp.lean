/-
  zzStamp; worlds that part in draws alone; the memory of the copies while it is stamped.
-/
import Derived.Test.Qxb6603185aCopies
import Derived.Deep.RegionWith
namespace Go.Proofs.Qxb6603185a
open Go.RowKit

def stamp (k pass : Nat) : Int :=
  if pass = 0 then (k : Int) % 256 else if pass = 1 then (k : Int) / 256 % 256 else if pass = 2 then (k : Int) / 65536 else bits BinOp.xor .u8 IntKind.u8.max ((k : Int) % 256)

def StampPost (w : World) (v : Int) (e : Ending) (w' : World) : Prop := e = .returned (.int .u8 v) ∧ w' = w

theorem stamp27 (k pass : Nat) (hk : k ≤ 1048576) (hp : pass < 4) (w : World) : Calls Try.prog 27 #[.int .i64 (k : Nat), .int .i64 (pass : Nat)] w (StampPost w (stamp k pass)) := by
  match pass, hp with
  | 0, _ =>
    show Calls Try.prog 27 #[.int .i64 (k : Nat), .int .i64 ((0 : Nat) : Int)] w (StampPost w ((k : Int) % 256))
    go_enter Try.func27, Try.ntmps27
    go_wp2
    go_ret
    exact ⟨rfl, rfl⟩
  | 1, _ =>
    show Calls Try.prog 27 #[.int .i64 (k : Nat), .int .i64 ((1 : Nat) : Int)] w (StampPost w ((k : Int) / 256 % 256))
    go_enter Try.func27, Try.ntmps27
    go_wp2
    go_ret
    exact ⟨rfl, rfl⟩
  | 2, _ =>
    show Calls Try.prog 27 #[.int .i64 (k : Nat), .int .i64 ((2 : Nat) : Int)] w (StampPost w ((k : Int) / 65536))
    go_enter Try.func27, Try.ntmps27
    go_wp2
    go_ret
    exact ⟨rfl, rfl⟩
  | 3, _ =>
    show Calls Try.prog 27 #[.int .i64 (k : Nat), .int .i64 ((3 : Nat) : Int)] w (StampPost w (bits BinOp.xor .u8 IntKind.u8.max ((k : Int) % 256)))
    go_enter Try.func27, Try.ntmps27
    go_wp2
    go_ret
    exact ⟨rfl, rfl⟩

/-- A world that parts from another in draws alone. -/
def Still (w w' : World) : Prop := ∃ m, w' = w.drewN m
theorem Still.refl (w : World) : Still w w := ⟨0, rfl⟩
theorem Still.drewN {w w' : World} (h : Still w w') (n : Nat) : Still w (w'.drewN n) := by
  obtain ⟨m, rfl⟩ := h
  exact ⟨m + n, by simp⟩
theorem Still.cells {w w' : World} (h : Still w w') {ao : Option Addr} {n : Nat} {V : Nat → Value} (hc : CellsAt w ao n V) : CellsAt w' ao n V := by
  obtain ⟨m, rfl⟩ := h
  rcases hc with h | ⟨b, off, h1, h2⟩
  · exact .inl h
  · exact .inr ⟨b, off, h1, fun r hr => by simpa using h2 r hr⟩
theorem Still.below {B : Nat} {w0 w w' : World} (h : Still w w') (hb : Below B w0 w) : Below B w0 w' := by
  obtain ⟨m, rfl⟩ := h
  exact below_drewN hb m
theorem Still.row {w w' : World} (h : Still w w') {b t n : Nat} {f : Nat → Value} (hr : w.rowIs b t n f) : w'.rowIs b t n f := by
  obtain ⟨m, rfl⟩ := h
  exact hr

theorem piece_eq (N : Nat) (L : Nat → Nat) (r : Nat) : piece N L r = .slice (if L r = 0 then none else some ⟨N, psum L r, none⟩) (L r) (L r) := by
  unfold piece
  by_cases h : L r = 0
  · rw [if_pos h, if_pos h, h]
  · rw [if_neg h, if_neg h]

/-- The copies' memory: old memory as it was, the row of pieces, the one allocation holding F. -/
structure Stamped (w wr : World) (n : Nat) (L : Nat → Nat) (F : Nat → Value) : Prop where
  below : Below w.heap.size w wr
  top : wr.rowIs (w.heap.size + 1) 25 n (piece w.heap.size L)
  bytes : wr.rowIs w.heap.size 5 (psum L n) F

theorem CloneR.stamped {w wr : World} {n : Nat} {L : Nat → Nat} {Z : Nat → Nat → Int} {xs : List Value} (h : CloneR w wr n n (psum L n) L Z xs) : ∃ F, Stamped w wr n L F := by
  obtain ⟨h1, h2⟩ := h.own
  rcases h2 with ⟨h2, _⟩ | ⟨g, cap, cur, hv, hb, hg, hl, hm, hs, ht⟩
  · cases h2
  · cases hv
    refine ⟨fun o => cur.getD o (.int .u8 0), h.below, h.top.congr (fun r hr => by rw [if_pos hr]), cur, hg, by simpa using hs, fun i hi => ?_⟩
    have : i < cur.size := by simp at hs; omega
    simp [Array.getD, this]

theorem Stamped.congr {w wr : World} {n : Nat} {L : Nat → Nat} {F G : Nat → Value} (h : Stamped w wr n L F) (e : ∀ o, o < psum L n → F o = G o) : Stamped w wr n L G := ⟨h.below, h.top, h.bytes.congr e⟩

theorem Stamped.drew {w wr : World} {n : Nat} {L : Nat → Nat} {F : Nat → Value} (h : Stamped w wr n L F) : Stamped w wr.drew n L F := ⟨h.below.drew, h.top, h.bytes⟩

theorem Still.stamped {w wr wq : World} (hs : Still wr wq) {n : Nat} {L : Nat → Nat} {F : Nat → Value} (h : Stamped w wr n L F) : Stamped w wq n L F := ⟨hs.below h.below, hs.row h.top, hs.row h.bytes⟩

/-- A byte is stored. -/
theorem Stamped.store {w wr : World} {n : Nat} {L : Nat → Nat} {F : Nat → Value} {p o : Nat} (h : Stamped w wr n L (fun q => if q < o then .int .u8 (stamp q p) else F q)) :
    Stamped w (wr.setCell ⟨w.heap.size, o, none⟩ (.int .u8 (stamp o p))) n L (fun q => if q < o + 1 then .int .u8 (stamp q p) else F q) := by
  refine ⟨h.below.setCell (Nat.le_refl _) _, h.top.setOther (by simp) _, (h.bytes.set o _).congr (fun q _ => ?_)⟩
  by_cases e : q = o
  · subst e; simp
  · simp only [e, if_false]
    by_cases hl : q < o
    · rw [if_pos hl, if_pos (by omega)]
    · rw [if_neg hl, if_neg (by omega)]

end Go.Proofs.Qxb6603185a
