/-
  (*seqs).set and ZZSeqsSet.
-/
import Derived.Test.Qxb6603185aZeros
import Derived.Maps.OwnSet
import Derived.Maps.OwnOps
namespace Go.Proofs.Qxb6603185a
open Go.RowKit Go.Maps

theorem law3 : Keyed Try.prog 3 := int_keyed Try.underlying3
theorem zero35 (w : World) : (zeroValue 35).run Try.prog w = .ok (.int .u64 0) w := by kernel_rfl

theorem grownBy_setCell (w : World) (a : Addr) (u : Value) : w.grownBy (w.setCell a u) (some a.block) :=
  ⟨rfl, rfl, rfl, by simp [World.setCell], fun k _ hk => Below.heap_setCell _ _ _ _ (fun e => hk (by rw [e]))⟩

/-- A struct of two cells in a block of its own. -/
def Pair (w : World) (B : Nat) (t : TypeId) (v m : Value) : Prop := w.heap[B]? = some (.cells #[v, m] t (0, 0))

theorem Pair.lt {w : World} {B : Nat} {t : TypeId} {v m : Value} (h : Pair w B t v m) : B < w.heap.size := by
  obtain ⟨hlt, _⟩ := Array.getElem?_eq_some_iff.1 h
  exact hlt
theorem Pair.cell0 {w : World} {B : Nat} {t : TypeId} {v m : Value} (h : Pair w B t v m) : w.cell? ⟨B, 0, none⟩ = some v := by
  unfold Pair at h; simp [World.cell?, h]
theorem Pair.cell1 {w : World} {B : Nat} {t : TypeId} {v m : Value} (h : Pair w B t v m) : w.cell? ⟨B, 1, none⟩ = some m := by
  unfold Pair at h; simp [World.cell?, h]
theorem Pair.frozen {w : World} {B : Nat} {t : TypeId} {v m : Value} (h : Pair w B t v m) (i : Nat) : w.frozen? ⟨B, i, none⟩ = false := by
  unfold Pair at h; simp [World.frozen?, h]
theorem Pair.set0 {w : World} {B : Nat} {t : TypeId} {v m : Value} (h : Pair w B t v m) (u : Value) : Pair (w.setCell ⟨B, 0, none⟩ u) B t u m := by
  unfold Pair at h ⊢; simp [World.setCell, Array.getElem?_modify, h]
theorem Pair.set1 {w : World} {B : Nat} {t : TypeId} {v m : Value} (h : Pair w B t v m) (u : Value) : Pair (w.setCell ⟨B, 1, none⟩ u) B t v u := by
  unfold Pair at h ⊢; simp [World.setCell, Array.getElem?_modify, h]
theorem Pair.grown {w w' : World} {B : Nat} {t : TypeId} {v m : Value} (h : Pair w B t v m) {row : Option Nat} (hg : w.grownBy w' row) (hne : some B ≠ row) : Pair w' B t v m := by
  have hlt := h.lt
  unfold Pair at h ⊢
  rw [hg.block B hlt hne, h]

theorem alloc_at_size (w : World) (o : Obj) : (w.alloc o).heap[w.heap.size]? = some o := by
  show (w.heap.push o)[w.heap.size]? = some o
  simp

/-- What a seqs holds: its slice's words xs, its map's entries D. -/
structure Seqs (w : World) (base cnt : Nat) (v m : Value) (xs : List Value) (D : DataW Unit) : Prop where
  own : w.ownsRow base 35 1 v xs.length xs
  map : (m = .map none ∧ D = .map []) ∨ ∃ B, m = .map (some B) ∧ base ≤ B ∧ 0 < Maps.size D ∧ w.ownsMap Try.prog 3 (plainElem Try.prog 35) B cnt D

theorem own_ne_pair {w : World} {base n B t : Nat} {v v0 m0 : Value} {xs : List Value} (h : w.ownsRow base 35 1 v n xs) (hB : Pair w B t v0 m0) (ht : t ≠ 35) : v.ownBlock ≠ some B := by
  intro e
  rcases h.2 with ⟨rfl, _⟩ | ⟨g, cap, cur, rfl, hb, hg, _⟩
  · cases e
  · have : g = B := by simpa [Value.ownBlock] using e
    subst this
    unfold Pair at hB
    rw [hg] at hB
    simp at hB
    exact ht hB.2.symm

theorem map_ne_pair {w : World} {B t b cnt : Nat} {v0 m0 : Value} {D : DataW Unit} (h : w.ownsMap Try.prog 3 (plainElem Try.prog 35) b cnt D) (hB : Pair w B t v0 m0) : b ≠ B := by
  intro e
  subst e
  obtain ⟨es, clock, hb, _⟩ := h
  unfold Pair at hB
  rw [hb] at hB
  cases hB

theorem map_ne_own {w : World} {base n b cnt : Nat} {v : Value} {xs : List Value} {D : DataW Unit} (h : w.ownsMap Try.prog 3 (plainElem Try.prog 35) b cnt D) (ho : w.ownsRow base 35 1 v n xs) : some b ≠ v.ownBlock := by
  intro e
  rcases ho.2 with ⟨rfl, _⟩ | ⟨g, cap, cur, rfl, hb, hg, _⟩
  · cases e
  · have : b = g := by simpa [Value.ownBlock] using e
    subst this
    obtain ⟨es, clock, hb, _⟩ := h
    rw [hb] at hg
    cases hg

/-- A step that writes to a struct's block and to new blocks alone. -/
theorem Seqs.pair {w w' : World} {base cnt B t : Nat} {v m v0 m0 : Value} {xs : List Value} {D : DataW Unit} (h : Seqs w base cnt v m xs D) (hB : Pair w B t v0 m0) (ht : t ≠ 35) (hg : w.grownBy w' (some B)) : Seqs w' base cnt v m xs D := by
  refine ⟨h.own.kept hg (.inr (own_ne_pair h.own hB ht)), ?_⟩
  rcases h.map with h1 | ⟨b, h1, h2, h3, h4⟩
  · exact .inl h1
  · exact .inr ⟨b, h1, h2, h3, h4.kept hg (by simpa using map_ne_pair h4 hB)⟩

theorem Seqs.mono {w : World} {base cnt cnt' : Nat} {v m : Value} {xs : List Value} {D : DataW Unit} (h : Seqs w base cnt v m xs D) (hc : cnt ≤ cnt') : Seqs w base cnt' v m xs D := by
  refine ⟨h.own, ?_⟩
  rcases h.map with h1 | ⟨b, h1, h2, h3, h4⟩
  · exact .inl h1
  · exact .inr ⟨b, h1, h2, h3, h4.mono hc⟩

theorem Seqs.alloc {w : World} {base cnt : Nat} {v m : Value} {xs : List Value} {D : DataW Unit} (h : Seqs w base cnt v m xs D) (o : Obj) : Seqs (w.alloc o) base cnt v m xs D := by
  refine ⟨h.own.alloc o, ?_⟩
  rcases h.map with h1 | ⟨b, h1, h2, h3, h4⟩
  · exact .inl h1
  · exact .inr ⟨b, h1, h2, h3, h4.alloc o⟩

/-- A step that writes to the slice's row and to new blocks alone, and what the slice owns behind it. -/
theorem Seqs.row {w w' : World} {base cnt : Nat} {v v' m : Value} {xs xs' : List Value} {D : DataW Unit} (h : Seqs w base cnt v m xs D) (hg : w.grownBy w' v.ownBlock) (ho : w'.ownsRow base 35 1 v' xs'.length xs') : Seqs w' base cnt v' m xs' D := by
  refine ⟨ho, ?_⟩
  rcases h.map with h1 | ⟨b, h1, h2, h3, h4⟩
  · exact .inl h1
  · exact .inr ⟨b, h1, h2, h3, h4.kept hg (map_ne_own h4 h.own)⟩

/-- What 'set' makes of the words and of the entries. -/
def setLow (xs : List Value) (x : Nat) (y : Int) : List Value := (xs ++ noughts (x + 1 - xs.length)).set x (.int .u64 y)
def setHigh (D : DataW Unit) (x : Nat) (y : Int) : DataW Unit := D.put (.int .i64 (x : Nat)) (.lit (.int .u64 y))

def SetPost (w : World) (base cnt B : Nat) (xs : List Value) (D : DataW Unit) (e : Ending) (w' : World) : Prop :=
  e = .returned (.tuple #[]) ∧ ∃ v' m', Below base w w' ∧ Pair w' B 54 v' m' ∧ Seqs w' base cnt v' m' xs D

theorem size_put_pos (D : DataW Unit) (hT : Tidy D) (k : Lit) (d : DataW Unit) : 0 < Maps.size (D.put k d) := by
  rw [size_put hT d]
  split
  · have hh : Maps.has D k = true := by assumption
    obtain ⟨es, rfl, _⟩ := hT
    cases es with
    | nil => simp [Maps.has] at hh
    | cons a l => simp [Maps.size]
  · omega

/-- The world behind the making of the map. -/
theorem new_post {w w1 : World} {B base cnt x : Nat} {y : Int} {v : Value} {xs : List Value} (hB : Pair w B 54 v (.map none)) (hb : base ≤ B) (h : Seqs w base cnt v (.map none) xs (.map []))
    (hown : w1.ownsMap Try.prog 3 (plainElem Try.prog 35) w.heap.size (0 + 1) (setHigh (.map []) x y)) (hg : ((w.setCell ⟨B, 1, none⟩ (.map (some w.heap.size))).alloc (.map #[] 0)).grownBy w1 (some w.heap.size)) :
    SetPost w base (cnt + 1) B xs (setHigh (.map []) x y) (.returned (.tuple #[])) w1 := by
  have hlt := hB.lt
  have hbase : base ≤ w.heap.size := by omega
  have p1 := (hB.set1 (.map (some w.heap.size))).grown (World.grownBy_alloc _ (.map #[] 0) none) (by simp)
  have p2 := p1.grown hg (by simp; omega)
  have s1 := (h.pair hB (by decide) (grownBy_setCell w ⟨B, 1, none⟩ (.map (some w.heap.size)))).alloc (.map #[] 0)
  have o2 : w1.ownsRow base 35 1 v xs.length xs := s1.own.kept hg (by
    cases hv : v.ownBlock with
    | none => exact .inl rfl
    | some g =>
      have := (h.own.lt g hv).2
      right
      simp
      omega)
  refine ⟨rfl, v, _, ?_, p2, o2, .inr ⟨w.heap.size, rfl, hbase, size_put_pos _ tidy_empty _ _, hown.mono (by omega)⟩⟩
  exact (((Below.refl _ _).setCell hb _).alloc (by simp; omega) _).grown hg (by simp; omega) (fun j hj => by cases hj; exact hbase)

set_option maxHeartbeats 400000 in
/-- A sender from 64 on, the map not yet made. -/
theorem set29_new (B base cnt x : Nat) (y : Int) (v : Value) (xs : List Value) (D : DataW Unit) (w : World) (hB : Pair w B 54 v (.map none)) (hb : base ≤ B) (h : Seqs w base cnt v (.map none) xs D) (hx : 64 ≤ x) (hx2 : x ≤ 9223372036854775807) (hy : (Lit.int .u64 y).wf = true) :
    Calls Try.prog 29 #[.pointer (some ⟨B, 0, none⟩), .int .i64 (x : Nat), .int .u64 y] w (SetPost w base (cnt + 1) B xs (setHigh D x y)) := by
  have hD : D = .map [] := by
    rcases h.map with ⟨_, h2⟩ | ⟨b, h1, _⟩
    · exact h2
    · cases h1
  subst hD
  have hmm := @run_makeMap Try.prog
  have qm := fun w r => run_eql_map_nil (P := Try.prog) w 32 3 35 r Try.underlying32
  have c1 := hB.cell1
  have f1 := hB.frozen 1
  have hlt := hB.lt
  have hkey := keyOf_int_mk (k := 3) Try.underlying3 (a := (x : Nat)) (WalkArith.wf_i64 (by omega))
  have HM : Hid (((w.setCell ⟨B, 1, none⟩ (.map (some w.heap.size))).alloc (.map #[] 0)).ownsMap Try.prog 3 (plainElem (H := Unit) Try.prog 35) w.heap.size 0 (.map [])) := by
    have := World.ownsMap_made (w.setCell ⟨B, 1, none⟩ (.map (some w.heap.size))) Try.prog 3 (plainElem (H := Unit) Try.prog 35)
    refine hid ?_
    simpa using this
  have HB : Hid (Pair w B 54 v (.map none)) := hB
  have HH : Hid (Seqs w base cnt v (.map none) xs (.map [])) := h
  clear hB h
  go_enter Try.func29, Try.ntmps29
  go_wp2_with (at_mapUpdate; refine wpList_mapUpdate_own _ rfl _ _ _ 32 rfl 3 35 law3 Try.underlying32 _ w.heap.size 0 _ rfl HM.out (by unfold maxLen; omega) _ _ _ rfl rfl hkey _ [] (plainElem_int Try.underlying35 hy) ?_)
  intro w1 hown1 hgrow1
  have HP := hid (new_post HB.out hb HH.out hown1 hgrow1)
  clear hown1 hgrow1 HB HH HM
  go_wp2
  go_end0
  exact HP.out

theorem old_post {w w1 : World} {B b base cnt x : Nat} {y : Int} {v : Value} {xs : List Value} {D : DataW Unit} (hB : Pair w B 54 v (.map (some b))) (h : Seqs w base cnt v (.map (some b)) xs D) (hbase : base ≤ w.heap.size)
    (hown : w1.ownsMap Try.prog 3 (plainElem Try.prog 35) b (cnt + 1) (setHigh D x y)) (hg : w.grownBy w1 (some b)) :
    SetPost w base (cnt + 1) B xs (setHigh D x y) (.returned (.tuple #[])) w1 := by
  obtain ⟨hb1, hb2, hm⟩ : base ≤ b ∧ 0 < Maps.size D ∧ w.ownsMap Try.prog 3 (plainElem Try.prog 35) b cnt D := by
    rcases h.map with ⟨h1, _⟩ | ⟨b', h1, h2, h3, h4⟩
    · cases h1
    · cases h1; exact ⟨h2, h3, h4⟩
  refine ⟨rfl, v, _, (Below.refl _ _).grown hg hbase (fun j hj => by cases hj; exact hb1), hB.grown hg (by simpa using (map_ne_pair hm hB).symm), h.own.kept hg (.inr (map_ne_own hm h.own).symm), .inr ⟨b, rfl, hb1, size_put_pos _ (hm.tidy law3) _ _, hown⟩⟩

set_option maxHeartbeats 400000 in
/-- A sender from 64 on, the map made before. -/
theorem set29_old (B b base cnt x : Nat) (y : Int) (v : Value) (xs : List Value) (D : DataW Unit) (w : World) (hB : Pair w B 54 v (.map (some b))) (hbase : base ≤ w.heap.size) (h : Seqs w base cnt v (.map (some b)) xs D) (hx : 64 ≤ x) (hx2 : x ≤ 9223372036854775807) (hy : (Lit.int .u64 y).wf = true) (hc : cnt ≤ 4096) :
    Calls Try.prog 29 #[.pointer (some ⟨B, 0, none⟩), .int .i64 (x : Nat), .int .u64 y] w (SetPost w base (cnt + 1) B xs (setHigh D x y)) := by
  have hm : w.ownsMap Try.prog 3 (plainElem Try.prog 35) b cnt D := by
    rcases h.map with ⟨h1, _⟩ | ⟨b', h1, h2, h3, h4⟩
    · cases h1
    · cases h1; exact h4
  have qm := fun w r => run_eql_map_nil (P := Try.prog) w 32 3 35 r Try.underlying32
  have c1 := hB.cell1
  have f1 := hB.frozen 1
  have hkey := keyOf_int_mk (k := 3) Try.underlying3 (a := (x : Nat)) (WalkArith.wf_i64 (by omega))
  have HM := hid hm
  have HB := hid hB
  have HH := hid h
  clear hB h hm
  go_enter Try.func29, Try.ntmps29
  go_wp2_with (at_mapUpdate; refine wpList_mapUpdate_own _ rfl _ _ _ 32 rfl 3 35 law3 Try.underlying32 _ b cnt _ rfl HM.out (by unfold maxLen; omega) _ _ _ rfl rfl hkey _ [] (plainElem_int Try.underlying35 hy) ?_)
  intro w1 hown1 hgrow1
  have HP := hid (old_post HB.out HH.out hbase hown1 hgrow1)
  clear hown1 hgrow1 HB HH HM
  go_wp2
  go_end0
  exact HP.out

theorem store_post {w : World} {B g cap base cnt x : Nat} {y : Int} {m : Value} {xs : List Value} {D : DataW Unit} (hB : Pair w B 54 (.slice (some ⟨g, 0, none⟩) xs.length cap) m) (hg : base ≤ g) (h : Seqs w base cnt (.slice (some ⟨g, 0, none⟩) xs.length cap) m xs D) (hx : x < xs.length) :
    SetPost w base (cnt + 1) B (setLow xs x y) D (.returned (.tuple #[])) (w.setCell ⟨g, x, none⟩ (.int .u64 y)) := by
  have hs := h.own.stored x (.int .u64 y)
  have e : setLow xs x y = xs.set x (.int .u64 y) := by
    unfold setLow
    rw [show x + 1 - xs.length = 0 by omega]
    simp [noughts]
  have hl : (xs.set x (.int .u64 y)).length = xs.length := by simp
  rw [e]
  refine ⟨rfl, _, m, (Below.refl _ _).setCell hg _, hB.grown hs.2 (Ne.symm (own_ne_pair h.own hB (by decide))), (h.row hs.2 (by rw [hl]; exact hs.1)).mono (by omega)⟩

set_option maxHeartbeats 400000 in
/-- A sender below 64 that the slice holds. -/
theorem set29_low (B g cap base cnt x : Nat) (y : Int) (m : Value) (xs : List Value) (D : DataW Unit) (w : World) (hB : Pair w B 54 (.slice (some ⟨g, 0, none⟩) xs.length cap) m) (hg : base ≤ g) (h : Seqs w base cnt (.slice (some ⟨g, 0, none⟩) xs.length cap) m xs D) (hx : x < 64) (hx2 : x < xs.length) :
    Calls Try.prog 29 #[.pointer (some ⟨B, 0, none⟩), .int .i64 (x : Nat), .int .u64 y] w (SetPost w base (cnt + 1) B (setLow xs x y) D) := by
  have HP := hid (store_post (y := y) hB hg h hx2)
  have c0 := hB.cell0
  have f0 := hB.frozen 0
  obtain ⟨u, hu⟩ : ∃ u, w.cell? ⟨g, x, none⟩ = some u := ⟨xs[x], by rw [h.own.cellAt x (by omega)]; simp [hx2]⟩
  have fg := h.own.frozenAt x
  clear hB h
  generalize xs.length = n at *
  go_enter Try.func29, Try.ntmps29
  go_wp2
  go_end0
  exact HP.out

/-- The world behind the growth of the slice. -/
theorem grow_post {w w1 : World} {B g cap cap' base cnt n x : Nat} {a : Option Addr} {m : Value} {xs : List Value} {D : DataW Unit} (y : Int) (hB : Pair w B 54 (.slice a n cap) m) (hb : base ≤ B) (h : Seqs w base cnt (.slice a n cap) m xs D) (hn : xs.length = n) (hx2 : n ≤ x)
    (hown : w1.ownsRow base 35 1 (.slice (some ⟨g, 0, none⟩) (n + (x + 1 - n)) cap') (n + (x + 1 - n)) (xs ++ noughts (x + 1 - n))) (hg : w.grownBy w1 (Value.ownBlock (.slice a n cap))) :
    Pair w1 B 54 (.slice a n cap) m ∧ Pair (w1.setCell ⟨B, 0, none⟩ (.slice (some ⟨g, 0, none⟩) (n + (x + 1 - n)) cap')) B 54 (.slice (some ⟨g, 0, none⟩) (n + (x + 1 - n)) cap') m ∧
    (∃ u, (w1.setCell ⟨B, 0, none⟩ (.slice (some ⟨g, 0, none⟩) (n + (x + 1 - n)) cap')).cell? ⟨g, x, none⟩ = some u) ∧ (w1.setCell ⟨B, 0, none⟩ (.slice (some ⟨g, 0, none⟩) (n + (x + 1 - n)) cap')).frozen? ⟨g, x, none⟩ = false ∧
    SetPost w base (cnt + 1) B (setLow xs x y) D (.returned (.tuple #[])) ((w1.setCell ⟨B, 0, none⟩ (.slice (some ⟨g, 0, none⟩) (n + (x + 1 - n)) cap')).setCell ⟨g, x, none⟩ (.int .u64 y)) := by
  have hbase : base ≤ w.heap.size := by have := hB.lt; omega
  have hnl : (noughts (x + 1 - n)).length = x + 1 - n := by simp [noughts]
  have hl : (xs ++ noughts (x + 1 - n)).length = n + (x + 1 - n) := by simp [hn, hnl]
  have P1 : Pair w1 B 54 (.slice a n cap) m := hB.grown hg (Ne.symm (own_ne_pair h.own hB (by decide)))
  have P2 := P1.set0 (.slice (some ⟨g, 0, none⟩) (n + (x + 1 - n)) cap')
  have S1 : Seqs w1 base cnt (.slice (some ⟨g, 0, none⟩) (n + (x + 1 - n)) cap') m (xs ++ noughts (x + 1 - n)) D := h.row hg (by rw [hl]; exact hown)
  have S2 := S1.pair P1 (by decide) (grownBy_setCell w1 ⟨B, 0, none⟩ (.slice (some ⟨g, 0, none⟩) (n + (x + 1 - n)) cap'))
  have O2 := S2.own
  rw [hl] at O2
  have hg1 : base ≤ g := (S1.own.lt g rfl).1
  have Bl1 : Below base w (w1.setCell ⟨B, 0, none⟩ (.slice (some ⟨g, 0, none⟩) (n + (x + 1 - n)) cap')) :=
    ((Below.refl _ _).grown hg hbase (fun j hj => (h.own.lt j hj).1)).setCell hb _
  rw [← hl] at P2 S2 Bl1
  have SP := store_post (y := y) P2 hg1 S2 (x := x) (by rw [hl]; omega)
  rw [hl] at SP P2 Bl1
  obtain ⟨_, v', m', b1, b2, b3⟩ := SP
  refine ⟨P1, P2, ⟨(xs ++ noughts (x + 1 - n))[x]'(by rw [hl]; omega), ?_⟩, O2.frozenAt x, rfl, v', m', Bl1.trans b1, b2, ?_⟩
  · rw [O2.cellAt x (by omega)]
    rw [List.getElem?_eq_getElem (by rw [hl]; omega)]
  · have e : setLow (xs ++ noughts (x + 1 - n)) x y = setLow xs x y := by
      unfold setLow
      rw [hl, hn, show x + 1 - (n + (x + 1 - n)) = 0 by omega]
      simp [noughts]
    rw [e] at b3
    exact b3

theorem wrap_len (x n : Nat) (h : n ≤ x) (hx : x < 1048576) : IntKind.i64.wrap (IntKind.i64.wrap ((x : Int) + 1) - (n : Int)) = ((x + 1 - n : Nat) : Int) := by
  rw [IntKind.wrap_i64, IntKind.wrap_i64]
  omega

set_option maxHeartbeats 400000 in
/-- A sender below 64 that the slice does not hold yet. -/
theorem set29_grow (B base cnt n x : Nat) (y : Int) (v m : Value) (a : Option Addr) (cap : Nat) (hv : v = .slice a n cap) (xs : List Value) (D : DataW Unit) (w : World) (hB : Pair w B 54 v m) (hb : base ≤ B) (h : Seqs w base cnt v m xs D) (hx : x < 64) (hn : xs.length = n) (hx2 : n ≤ x) :
    Calls Try.prog 29 #[.pointer (some ⟨B, 0, none⟩), .int .i64 (x : Nat), .int .u64 y] w (SetPost w base (cnt + 1) B (setLow xs x y) D) := by
  have hbase : base ≤ w.heap.size := by have := hB.lt; omega
  have ho : w.ownsRow base 35 1 v n xs := by rw [← hn]; exact h.own
  subst hv
  have c0 := hB.cell0
  have f0 := hB.frozen 0
  have HO := hid ho
  have HB := hid hB
  have HH := hid h
  have HN := hid hn
  clear ho hB h hn
  go_enter Try.func29, Try.ntmps29
  go_wp2
  go_region_law (refine step_append_zeros _ rfl (.tmp 34) (.tmp 42) 28 rfl Try.underlying28 base (.slice a n cap) n xs (by simp [Act.eval, Act.put]) (by exact HO.out) (x + 1 - n) _ (by simp [Act.eval, Act.put]) (wrap_len x n hx2 (by omega)) (by omega) (by omega) hbase ?_; intro g cap' w1 hown1 hgrow1 hat1 hlt1; obtain ⟨P1, P2, ⟨u, cu⟩, fu, SP⟩ := grow_post y HB.out hb HH.out HN.out hx2 hown1 ⟨hgrow1.os, hgrow1.tape, hgrow1.output, hgrow1.size, hgrow1.block⟩; have c0' := P1.cell0; have f0' := P1.frozen 0; have c0'' := P2.cell0; have HSP := hid SP; clear P1 P2 SP hown1 hgrow1 hat1 hlt1)
  all_goals (go_wp2; go_end0; exact HSP.out)

/-- 'set', whatever the sender. -/
theorem set29 (B base cnt x : Nat) (y : Int) (v m : Value) (xs : List Value) (D : DataW Unit) (w : World) (hB : Pair w B 54 v m) (hb : base ≤ B) (h : Seqs w base cnt v m xs D) (hx2 : x ≤ 9223372036854775807) (hy : (Lit.int .u64 y).wf = true) (hc : cnt ≤ 4096) :
    Calls Try.prog 29 #[.pointer (some ⟨B, 0, none⟩), .int .i64 (x : Nat), .int .u64 y] w (SetPost w base (cnt + 1) B (if x < 64 then setLow xs x y else xs) (if x < 64 then D else setHigh D x y)) := by
  by_cases hx : x < 64
  · rw [if_pos hx, if_pos hx]
    by_cases hl : x < xs.length
    · obtain ⟨g, cap, rfl, hg, _⟩ := h.own.form (by omega)
      exact set29_low B g cap base cnt x y m xs D w hB hg h hx hl
    · obtain ⟨a, cap, hv⟩ : ∃ a cap, v = .slice a xs.length cap := by
        rcases h.own.2 with ⟨e1, e2⟩ | ⟨g, cap, cur, e1, _⟩
        · exact ⟨none, 0, by rw [e1, e2]⟩
        · exact ⟨_, _, e1⟩
      exact set29_grow B base cnt xs.length x y v m a cap hv xs D w hB hb h hx rfl (by omega)
  · rw [if_neg hx, if_neg hx]
    rcases h.map with ⟨rfl, _⟩ | ⟨b, rfl, _⟩
    · exact set29_new B base cnt x y v xs D w hB hb h (by omega) hx2 hy
    · exact set29_old B b base cnt x y v xs D w hB (by have := hB.lt; omega) h (by omega) hx2 hy hc

def SeqsPost (w : World) (base cnt : Nat) (xs : List Value) (D : DataW Unit) (e : Ending) (w' : World) : Prop :=
  ∃ v m, e = .returned (.tuple #[v, m]) ∧ Below base w w' ∧ Seqs w' base cnt v m xs D

theorem Seqs.shape {w : World} {base cnt : Nat} {v m : Value} {xs : List Value} {D : DataW Unit} (h : Seqs w base cnt v m xs D) : (∃ a cap, v = .slice a xs.length cap) ∧ ∃ r, m = .map r := by
  constructor
  · rcases h.own.2 with ⟨e1, e2⟩ | ⟨g, cap, cur, e1, _⟩
    · exact ⟨none, 0, by rw [e1, e2]⟩
    · exact ⟨_, _, e1⟩
  · rcases h.map with ⟨rfl, _⟩ | ⟨b, rfl, _⟩
    · exact ⟨_, rfl⟩
    · exact ⟨_, rfl⟩

set_option maxHeartbeats 400000 in
theorem seqs16 (base cnt x : Nat) (y : Int) (v m : Value) (xs : List Value) (D : DataW Unit) (w : World) (hb : base ≤ w.heap.size) (h : Seqs w base cnt v m xs D) (hx2 : x ≤ 9223372036854775807) (hy : (Lit.int .u64 y).wf = true) (hc : cnt ≤ 4096) :
    Calls Try.prog 16 #[v, m, .int .i64 (x : Nat), .int .u64 y] w (SeqsPost w base (cnt + 1) (if x < 64 then setLow xs x y else xs) (if x < 64 then D else setHigh D x y)) := by
  have H := hid (set29 w.heap.size base cnt x y v m xs D (w.alloc (.cells #[v, m] 54)) (alloc_at_size w _) hb (h.alloc _) hx2 hy hc)
  obtain ⟨⟨a, cap, hv⟩, r, hm⟩ := h.shape
  generalize xs.length = n at hv
  subst hv hm
  have HB := hid ((Below.refl base w).alloc hb (.cells #[.slice a n cap, .map r] 54))
  clear h
  generalize (if x < 64 then setLow xs x y else xs) = xs' at *
  generalize (if x < 64 then D else setHigh D x y) = D' at *
  go_enter Try.func16, Try.ntmps16
  go_wp2_with fail
  refine H.out.mono ?_
  rintro e w1 ⟨rfl, v', m', hbl, hP, hS⟩
  obtain ⟨⟨a', cap', hv⟩, r', hm⟩ := hS.shape
  have HS := hid hS
  have HBl := hid (HB.out.trans hbl)
  clear hS hbl H HB
  generalize hl : xs'.length = n' at hv
  have HL := hid hl
  clear hl
  subst hv hm
  have c0 := hP.cell0
  have c1 := hP.cell1
  clear hP
  go_wp2
  go_quiet (fail)
  go_wp2
  go_ret2
  exact ⟨_, _, rfl, below_drewN HBl.out _, HS.out.own, HS.out.map⟩

end Go.Proofs.Qxb6603185a
