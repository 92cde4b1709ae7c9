/-
  bytes.HasPrefix at the mark, newSource, ZZNewSource.
-/
import Derived.Test.Qxb6601996aBase
namespace Go.Proofs.Qxb6601996a
open Go.RowKit

def MarkAt (w : World) (b o : Nat) : Prop := ∀ i, i < 3 → w.cell? ⟨b, o + i, none⟩ = some (.int .u8 (([239, 187, 191] : List Int).getD i 0))

theorem prefix16 (b n c b' c' : Nat) (w : World) (h3 : 3 ≤ n) (hn : n ≤ c) (hc : c ≤ 9223372036854775807) (h1 : MarkAt w b 0) (h2 : MarkAt w b' 0) :
    Calls Try.prog 16 #[.slice (some ⟨b, 0, none⟩) n c, .slice (some ⟨b', 0, none⟩) 3 c'] w fun e w' => e = .returned (.bool true) ∧ w' = w := by
  have H18 := hid (equal18 b 0 c b' 0 c' w h1 h2)
  clear h1 h2
  have i1 : (3 : Int) ≤ (n : Int) := by omega
  have i2 : (3 : Int) ≤ (c : Int) := by omega
  go_enter Try.func16, Try.ntmps16
  go_wp2_with (go_at_call 18; refine H18.out.mono ?_; rintro e w' ⟨rfl, hw⟩; subst hw)
  go_ret
  exact ⟨rfl, rfl⟩

/-- What newSource makes. -/
def SrcPost (b n c : Nat) (w : World) (e : Ending) (w' : World) : Prop :=
  e = .returned (.pointer (some ⟨w.heap.size, 0, none⟩)) ∧ Below w.heap.size w w' ∧ w'.cell? ⟨w.heap.size, 0, none⟩ = some (.slice (some ⟨b, 0, none⟩) n c) ∧
    w'.cell? ⟨w.heap.size, 1, none⟩ = some (.int .i64 3) ∧ w'.cell? ⟨w.heap.size, 2, none⟩ = some (.int .i64 1) ∧ w'.cell? ⟨w.heap.size, 3, none⟩ = some (.int .i64 1)

def srcCells (b n c : Nat) : Array Value := #[.slice (some ⟨b, 0, none⟩) n c, .int .i64 0, .int .i64 1, .int .i64 1]
def markCells : Array Value := #[.int .u8 239, .int .u8 187, .int .u8 191]
def srcWorld (b n c : Nat) (w : World) : World := (w.alloc (.cells (srcCells b n c) 32)).alloc (.cells markCells 5 (3, 4))

theorem src_block (b n c : Nat) (w : World) : (srcWorld b n c w).heap[w.heap.size]? = some (.cells (srcCells b n c) 32) := by
  show ((w.heap.push _).push _)[w.heap.size]? = _
  simp [Array.getElem?_push]
theorem src_mark (b n c : Nat) (w : World) : MarkAt (srcWorld b n c w) (w.heap.size + 1) 0 := by
  intro i hi
  unfold srcWorld
  rw [Joins.cell_alloc_mark_at _ _ _ _ _ _ (by simp)]
  rcases i with _ | _ | _ | i
  · rfl
  · rfl
  · rfl
  · omega
theorem src_below (b n c : Nat) (w : World) : Below w.heap.size w (srcWorld b n c w) :=
  ((Below.refl _ _).alloc (Nat.le_refl _) _).alloc (by simp) _

theorem new14 (b n c : Nat) (w : World) (h3 : 3 ≤ n) (hn : n ≤ c) (hc : c ≤ 9223372036854775807) (h1 : MarkAt w b 0) :
    Calls Try.prog 14 #[.slice (some ⟨b, 0, none⟩) n c] w (SrcPost b n c w) := by
  have kc : (convert 22 22 (.slice (some ⟨w.heap.size + 1, 0, none⟩) 3 3)).run Try.prog ((w.alloc (.cells #[.slice (some ⟨b, 0, none⟩) n c, .int .i64 0, .int .i64 1, .int .i64 1] 32)).alloc (.cells #[.int .u8 239, .int .u8 187, .int .u8 191] 5)) = .ok (.slice (some ⟨w.heap.size + 1, 0, none⟩) 3 3) (srcWorld b n c w) :=
    Joins.run_convert_bytes_const_at (P := Try.prog) (w.alloc (.cells (srcCells b n c) 32)) 22 5 markCells 3 3 (w.heap.size + 1) (by simp) Try.underlying22 Try.underlying5
  have hbk := src_block b n c w
  have hB := src_below b n c w
  have hM : MarkAt (srcWorld b n c w) b 0 := fun i hi => (hB.cell (p := ⟨b, 0 + i, none⟩) (World.block_lt_of_cell? _ _ (h1 i hi))).trans (h1 i hi)
  have H16 := hid (prefix16 b n c (w.heap.size + 1) 3 (srcWorld b n c w) h3 hn hc hM (src_mark b n c w))
  clear hM h1
  generalize srcWorld b n c w = w2 at *
  have c1 : w2.cell? ⟨w.heap.size, 1, none⟩ = some (.int .i64 0) := by simp [World.cell?, hbk, srcCells]
  have f1 : w2.frozen? ⟨w.heap.size, 1, none⟩ = false := by simp [World.frozen?, hbk]
  have HP : Hid (SrcPost b n c w (.returned (.pointer (some ⟨w.heap.size, 0, none⟩))) (w2.setCell ⟨w.heap.size, 1, none⟩ (.int .i64 3))) := by
    refine hid ⟨rfl, hB.setCell (Nat.le_refl _) _, ?_, ?_, ?_, ?_⟩
    · rw [World.cell?_setCell_other (h := by simp)]
      simp [World.cell?, hbk, srcCells]
    · exact World.cell?_setCell_same _ _ _ c1
    · rw [World.cell?_setCell_other (h := by simp)]
      simp [World.cell?, hbk, srcCells]
    · rw [World.cell?_setCell_other (h := by simp)]
      simp [World.cell?, hbk, srcCells]
  clear hB hbk
  go_enter Try.func14, Try.ntmps14
  go_wp2_with (go_at_call 16; refine H16.out.mono ?_; rintro e w' ⟨rfl, hw⟩; subst hw)
  go_ret
  exact HP.out

/-- What ZZNewSource hands back. -/
def ZNewPost (b n c : Nat) (w : World) (e : Ending) (w' : World) : Prop :=
  e = .returned (.tuple #[.slice (some ⟨b, 0, none⟩) n c, .int .i64 3, .int .i64 1, .int .i64 1]) ∧ Below w.heap.size w w'

theorem znew12 (b n c : Nat) (w : World) (h3 : 3 ≤ n) (hn : n ≤ c) (hc : c ≤ 9223372036854775807) (h1 : MarkAt w b 0) :
    Calls Try.prog 12 #[.slice (some ⟨b, 0, none⟩) n c] w (ZNewPost b n c w) := by
  have H14 := hid (new14 b n c w h3 hn hc h1)
  clear h1
  go_enter Try.func12, Try.ntmps12
  go_wp2_with (go_at_call 14; refine H14.out.mono ?_; rintro e w1 ⟨rfl, hB, k0, k1, k2, k3⟩; clear H14; have HB := hid (fun nq => below_drewN hB nq); clear hB)
  go_quiet (fail)
  go_wp2
  exact bodyPost_ret (v := .tuple #[.slice (some ⟨b, 0, none⟩) n c, .int .i64 3, .int .i64 1, .int .i64 1]) (by simp [results, Try.results12, go_sem]) rfl ⟨rfl, HB.out nq⟩

end Go.Proofs.Qxb6601996a
