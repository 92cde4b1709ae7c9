/-
  (*bitset).add, (*voterSet).add: walked over the tally's own block.
-/
import Derived.Test.Qxb6603185aBits
import Derived.Deep.RegionWith
namespace Go.Proofs.Qxb6603185a
open Go.RowKit

/-- A block that is known whole. -/
def Blk (w : World) (B : Nat) (t : TypeId) (c : Array Value) : Prop := w.heap[B]? = some (.cells c t (0, 0))

theorem Blk.lt {w : World} {B : Nat} {t : TypeId} {c : Array Value} (h : Blk w B t c) : B < w.heap.size := by
  obtain ⟨hlt, _⟩ := Array.getElem?_eq_some_iff.1 h
  exact hlt
theorem Blk.cell {w : World} {B : Nat} {t : TypeId} {c : Array Value} (h : Blk w B t c) (i : Nat) : w.cell? ⟨B, i, none⟩ = c[i]? := by
  unfold Blk at h; simp [World.cell?, h]
theorem Blk.frozen {w : World} {B : Nat} {t : TypeId} {c : Array Value} (h : Blk w B t c) (i : Nat) : w.frozen? ⟨B, i, none⟩ = false := by
  unfold Blk at h; simp [World.frozen?, h]
theorem Blk.set {w : World} {B : Nat} {t : TypeId} {c : Array Value} (h : Blk w B t c) (i : Nat) (v : Value) : Blk (w.setCell ⟨B, i, none⟩ v) B t (c.setIfInBounds i v) := by
  unfold Blk at h ⊢; simp [World.setCell, Array.getElem?_modify, h]
theorem Blk.grown {w w' : World} {B : Nat} {t : TypeId} {c : Array Value} (h : Blk w B t c) {row : Option Nat} (hg : w.grownBy w' row) (hne : some B ≠ row) : Blk w' B t c := by
  have hlt := h.lt
  unfold Blk at h ⊢
  rw [hg.block B hlt hne, h]
theorem Blk.drewN {w : World} {B : Nat} {t : TypeId} {c : Array Value} (h : Blk w B t c) (n : Nat) : Blk (w.drewN n) B t c := h

theorem grownBy_store (w : World) (a : Addr) (u : Value) : w.grownBy (w.setCell a u) (some a.block) :=
  ⟨rfl, rfl, rfl, by simp [World.setCell], fun k _ hk => Below.heap_setCell _ _ _ _ (fun e => hk (by rw [e]))⟩

theorem own_ne_blk {w : World} {base n B t : Nat} {v : Value} {c : Array Value} {xs : List Value} (h : w.ownsRow base 35 1 v n xs) (hB : Blk w B t c) (ht : t ≠ 35) : v.ownBlock ≠ some B := by
  intro e
  rcases h.2 with ⟨rfl, _⟩ | ⟨g, cap, cur, rfl, hb, hg, _⟩
  · cases e
  · have : g = B := by simpa [Value.ownBlock] using e
    subst this
    unfold Blk at hB
    rw [hg] at hB
    simp at hB
    exact ht hB.2.symm

/-- Words as cells. -/
def words (hs : List Nat) : List Value := hs.map (fun x => .int .u64 (x : Nat))
theorem words_length (hs : List Nat) : (words hs).length = hs.length := by simp [words]
theorem words_get (hs : List Nat) {k : Nat} (h : k < hs.length) : (words hs)[k]? = some (.int .u64 (hs.getD k 0 : Nat)) := by
  simp [words, h, List.getD_eq_getElem?_getD]
theorem words_longer (hs : List Nat) (k : Nat) : words hs ++ noughts (k + 1 - hs.length) = words (longer hs k) := by
  simp [words, longer, noughts]
theorem words_set (hs : List Nat) (k x : Nat) : (words hs).set k (.int .u64 (x : Nat)) = words (hs.set k x) := by
  simp [words, List.map_set]

/-- THE FRAME: below base all is as it was; and of the blocks that were there only B and the slice's own may have turned; the slice lies now in its own block still, or in a new one. -/
structure Sole (base B : Nat) (v v' : Value) (w w' : World) : Prop where
  below : Below base w w'
  keep : ∀ R, R < w.heap.size → R ≠ B → v.ownBlock ≠ some R → w'.heap[R]? = w.heap[R]? ∧ v'.ownBlock ≠ some R

theorem Sole.refl (base B : Nat) (v : Value) (w : World) : Sole base B v v w w := ⟨Below.refl _ _, fun _ _ _ h => ⟨rfl, h⟩⟩
theorem Sole.trans {base B : Nat} {v v1 v2 : Value} {w w1 w2 : World} (h : Sole base B v v1 w w1) (k : Sole base B v1 v2 w1 w2) : Sole base B v v2 w w2 := by
  refine ⟨h.below.trans k.below, fun R h1 h2 h3 => ?_⟩
  obtain ⟨a1, a2⟩ := h.keep R h1 h2 h3
  obtain ⟨b1, b2⟩ := k.keep R (Nat.lt_of_lt_of_le h1 h.below.size) h2 a2
  exact ⟨b1.trans a1, b2⟩
theorem Sole.drewN (base B : Nat) (v : Value) (w : World) (n : Nat) : Sole base B v v w (w.drewN n) := ⟨below_drewN (Below.refl _ _) n, fun _ _ _ h => ⟨rfl, h⟩⟩
theorem Sole.undrew {base B : Nat} {v v' : Value} {w w' : World} {n : Nat} (h : Sole base B v v' (w.drewN n) w') : Sole base B v v' w w' := (Sole.drewN base B v w n).trans h
theorem Sole.alloc {base : Nat} (B : Nat) (v : Value) {w : World} (hb : base ≤ w.heap.size) (o : Obj) : Sole base B v v w (w.alloc o) :=
  ⟨(Below.refl _ _).alloc hb o, fun _ h1 _ h => ⟨Below.heap_alloc _ _ _ h1, h⟩⟩
theorem Sole.setB {base B : Nat} (v : Value) (w : World) (hb : base ≤ B) (i : Nat) (u : Value) : Sole base B v v w (w.setCell ⟨B, i, none⟩ u) :=
  ⟨(Below.refl _ _).setCell hb u, fun _ _ h2 h => ⟨Below.heap_setCell _ _ _ _ h2, h⟩⟩
theorem Sole.setOwn {base : Nat} (B : Nat) {g n cap : Nat} (w : World) (hb : base ≤ g) (i : Nat) (u : Value) : Sole base B (.slice (some ⟨g, 0, none⟩) n cap) (.slice (some ⟨g, 0, none⟩) n cap) w (w.setCell ⟨g, i, none⟩ u) :=
  ⟨(Below.refl _ _).setCell hb u, fun R _ _ h => ⟨Below.heap_setCell _ _ _ _ (fun e => h (by simp [Value.ownBlock, e])), h⟩⟩
theorem Sole.grow {base : Nat} (B : Nat) {v : Value} {g n cap : Nat} {w w1 : World} (hb : base ≤ w.heap.size) (hown : ∀ k, v.ownBlock = some k → base ≤ k) (hg : w.grownBy w1 v.ownBlock) (hat : v.ownBlock = some g ∨ g = w.heap.size) : Sole base B v (.slice (some ⟨g, 0, none⟩) n cap) w w1 := by
  refine ⟨(Below.refl _ _).grown hg hb hown, fun R h1 _ h => ⟨hg.block R h1 (fun e => h e.symm), ?_⟩⟩
  intro e
  have hgR : g = R := by simpa [Value.ownBlock] using e
  rcases hat with h2 | h2
  · exact h (by rw [h2, hgR])
  · omega

/-- What bitset.add leaves. -/
def BitPost (w : World) (base B : Nat) (c : Array Value) (hv : Value) (hs : List Nat) (i : Nat) (e : Ending) (w' : World) : Prop :=
  e = .returned (.bool (!(hs.getD (i / 64) 0).testBit (i % 64))) ∧ ∃ hv', Sole base B hv hv' w w' ∧ Blk w' B 62 (c.setIfInBounds 5 hv') ∧ w'.ownsRow base 35 1 hv' (bitAdd hs i).length (words (bitAdd hs i))

theorem set5_self {c : Array Value} {v : Value} (h : c[5]? = some v) : c.setIfInBounds 5 v = c := by
  apply Array.ext_getElem?
  intro j
  rw [Array.getElem?_setIfInBounds]
  by_cases e : 5 = j
  · subst e
    rw [h]
    have : 5 < c.size := by
      obtain ⟨hlt, _⟩ := Array.getElem?_eq_some_iff.1 h
      exact hlt
    simp [this]
  · rw [if_neg e]

/-- The bit is stored. -/
theorem bit_store {w W : World} {base B g n cap i : Nat} {c : Array Value} {hv : Value} {hs : List Nat} (hbl : Sole base B hv (.slice (some ⟨g, 0, none⟩) n cap) w W) (hB : Blk W B 62 c)
    (ho : W.ownsRow base 35 1 (.slice (some ⟨g, 0, none⟩) n cap) n (words hs)) (hl : i / 64 < n) (hg : base ≤ g) (hok : wordsOk hs) :
    Sole base B hv (.slice (some ⟨g, 0, none⟩) n cap) w (W.setCell ⟨g, i / 64, none⟩ (.int .u64 (bits .or .u64 ((hs.getD (i / 64) 0 : Nat) : Int) (IntKind.u64.wrap ((2 : Int) ^ (i % 64)))))) ∧
    Blk (W.setCell ⟨g, i / 64, none⟩ (.int .u64 (bits .or .u64 ((hs.getD (i / 64) 0 : Nat) : Int) (IntKind.u64.wrap ((2 : Int) ^ (i % 64)))))) B 62 c ∧
    (W.setCell ⟨g, i / 64, none⟩ (.int .u64 (bits .or .u64 ((hs.getD (i / 64) 0 : Nat) : Int) (IntKind.u64.wrap ((2 : Int) ^ (i % 64)))))).ownsRow base 35 1 (.slice (some ⟨g, 0, none⟩) n cap) (bitAdd hs i).length (words (bitAdd hs i)) := by
  have hlen : hs.length = n := by have := ho.1; rw [words_length] at this; simpa using this
  have e1 : longer hs (i / 64) = hs := by
    unfold longer
    rw [show i / 64 + 1 - hs.length = 0 by omega]
    simp
  have e2 : bitAdd hs i = hs.set (i / 64) (hs.getD (i / 64) 0 ||| 2 ^ (i % 64)) := by unfold bitAdd; rw [e1]
  rw [or_form _ _ (getD_lt hok _) (Nat.mod_lt _ (by omega))]
  have hs' := ho.stored (i / 64) (.int .u64 ((hs.getD (i / 64) 0 ||| 2 ^ (i % 64) : Nat) : Int))
  refine ⟨hbl.trans (Sole.setOwn B W hg _ _), hB.grown hs'.2 (Ne.symm (own_ne_blk ho hB (by decide))), ?_⟩
  rw [e2, List.length_set, hlen, ← words_set]
  exact hs'.1

theorem wrap_more (k n : Nat) (h : n ≤ k) (hx : k < 1048576) : IntKind.i64.wrap (IntKind.i64.wrap ((k : Int) + 1) - (n : Int)) = ((k + 1 - n : Nat) : Int) := by
  rw [IntKind.wrap_i64, IntKind.wrap_i64]
  omega

set_option maxHeartbeats 400000 in
/-- The word is there. -/
theorem bit34_in (B base i g n cap : Nat) (c : Array Value) (hs : List Nat) (w : World) (hB : Blk w B 62 c) (hc : c[5]? = some (.slice (some ⟨g, 0, none⟩) n cap)) (ho : w.ownsRow base 35 1 (.slice (some ⟨g, 0, none⟩) n cap) n (words hs)) (hg : base ≤ g) (hok : wordsOk hs) (hi : i ≤ 65536) (hl : i / 64 < n) :
    Calls Try.prog 34 #[.pointer (some ⟨B, 5, none⟩), .int .i64 (i : Nat)] w (BitPost w base B c (.slice (some ⟨g, 0, none⟩) n cap) hs i) := by
  have hlen : hs.length = n := by have := ho.1; rw [words_length] at this; simpa using this
  have g5 : w.cell? ⟨B, 5, none⟩ = some (.slice (some ⟨g, 0, none⟩) n cap) := (hB.cell 5).trans hc
  have gw : w.cell? ⟨g, i / 64, none⟩ = some (.int .u64 (hs.getD (i / 64) 0 : Nat)) := by
    rw [ho.cellAt (i / 64) (by omega), words_get hs (by omega)]
  have fw := ho.frozenAt (i / 64)
  have hand := and_form (hs.getD (i / 64) 0) (i % 64) (getD_lt hok _) (Nat.mod_lt _ (by omega))
  have HS := hid (fun nq => bit_store (Sole.drewN base B (.slice (some ⟨g, 0, none⟩) n cap) w nq) (hB.drewN nq) ho hl hg hok)
  have HH : Hid (∀ hx : (hs.getD (i / 64) 0).testBit (i % 64) = true, bitAdd hs i = hs) := fun hx => bitAdd_same (by omega) hx
  have HB := hid hB
  have HO := hid ho
  have HC := hid hc
  have HL := hid hlen
  clear hB ho hc hlen hok
  unfold BitPost
  generalize hs.getD (i / 64) 0 = x at *
  generalize x.testBit (i % 64) = tb at *
  cases tb with
  | true =>
    go_enter Try.func34, Try.ntmps34
    go_wp2
    go_quiet (fail)
    go_wp2
    go_ret
    refine ⟨rfl, .slice (some ⟨g, 0, none⟩) n cap, Sole.drewN _ _ _ _ _, ?_, ?_⟩
    · rw [set5_self HC.out]; exact HB.out.drewN _
    · rw [HH.out trivial, HL.out]; exact HO.out
  | false =>
    go_enter Try.func34, Try.ntmps34
    go_wp2
    go_quiet (fail)
    go_wp2
    go_ret
    exact ⟨rfl, .slice (some ⟨g, 0, none⟩) n cap, (HS.out nq).1, by rw [set5_self HC.out]; exact (HS.out nq).2.1, (HS.out nq).2.2⟩

theorem bitAdd_longer (hs : List Nat) (i : Nat) : bitAdd (longer hs (i / 64)) i = bitAdd hs i := by
  have hl := longer_length hs (i / 64)
  have e : longer (longer hs (i / 64)) (i / 64) = longer hs (i / 64) := by
    show longer hs (i / 64) ++ List.replicate (i / 64 + 1 - (longer hs (i / 64)).length) 0 = longer hs (i / 64)
    rw [hl, show i / 64 + 1 - (if hs.length < i / 64 + 1 then i / 64 + 1 else hs.length) = 0 by split <;> omega]
    simp
  unfold bitAdd
  rw [e, longer_getD]

theorem longer_ok {hs : List Nat} (h : wordsOk hs) (k : Nat) : wordsOk (longer hs k) := by
  intro x hx
  rcases List.mem_append.1 hx with h1 | h1
  · exact h x h1
  · obtain ⟨_, rfl⟩ := List.mem_replicate.1 h1
    decide

/-- The world behind the growth of the words. -/
theorem bit_grow {w w1 : World} {base B g n cap cap' i : Nat} {a : Option Addr} {c : Array Value} {hs : List Nat} (hB : Blk w B 62 c) (hc : c[5]? = some (.slice a n cap)) (hb : base ≤ B) (ho : w.ownsRow base 35 1 (.slice a n cap) n (words hs)) (hok : wordsOk hs) (hi : n ≤ i / 64)
    (hown : w1.ownsRow base 35 1 (.slice (some ⟨g, 0, none⟩) (n + (i / 64 + 1 - n)) cap') (n + (i / 64 + 1 - n)) (words hs ++ noughts (i / 64 + 1 - n))) (hg : w.grownBy w1 (Value.ownBlock (.slice a n cap))) (hat : (Value.slice a n cap).ownBlock = some g ∨ g = w.heap.size) :
    Blk w1 B 62 c ∧ Blk (w1.setCell ⟨B, 5, none⟩ (.slice (some ⟨g, 0, none⟩) (n + (i / 64 + 1 - n)) cap')) B 62 (c.setIfInBounds 5 (.slice (some ⟨g, 0, none⟩) (n + (i / 64 + 1 - n)) cap')) ∧
    (w1.setCell ⟨B, 5, none⟩ (.slice (some ⟨g, 0, none⟩) (n + (i / 64 + 1 - n)) cap')).cell? ⟨g, i / 64, none⟩ = some (.int .u64 (hs.getD (i / 64) 0 : Nat)) ∧
    (w1.setCell ⟨B, 5, none⟩ (.slice (some ⟨g, 0, none⟩) (n + (i / 64 + 1 - n)) cap')).frozen? ⟨g, i / 64, none⟩ = false ∧
    BitPost w base B c (.slice a n cap) hs i (.returned (.bool (!(hs.getD (i / 64) 0).testBit (i % 64)))) ((w1.setCell ⟨B, 5, none⟩ (.slice (some ⟨g, 0, none⟩) (n + (i / 64 + 1 - n)) cap')).setCell ⟨g, i / 64, none⟩ (.int .u64 (bits .or .u64 ((hs.getD (i / 64) 0 : Nat) : Int) (IntKind.u64.wrap ((2 : Int) ^ (i % 64)))))) := by
  have hlen : hs.length = n := by have := ho.1; rw [words_length] at this; simpa using this
  have hbase : base ≤ w.heap.size := by have := hB.lt; omega
  have P1 : Blk w1 B 62 c := hB.grown hg (Ne.symm (own_ne_blk ho hB (by decide)))
  have P2 := P1.set 5 (.slice (some ⟨g, 0, none⟩) (n + (i / 64 + 1 - n)) cap')
  have hc5 : 5 < c.size := by
    obtain ⟨hlt, _⟩ := Array.getElem?_eq_some_iff.1 hc
    exact hlt
  have ew : words hs ++ noughts (i / 64 + 1 - n) = words (longer hs (i / 64)) := by rw [← hlen]; exact words_longer hs (i / 64)
  rw [ew] at hown
  have O2 := hown.kept (grownBy_store w1 ⟨B, 5, none⟩ (.slice (some ⟨g, 0, none⟩) (n + (i / 64 + 1 - n)) cap')) (.inr (own_ne_blk hown P1 (by decide)))
  have hg1 : base ≤ g := (hown.lt g rfl).1
  have Bl : Sole base B (.slice a n cap) (.slice (some ⟨g, 0, none⟩) (n + (i / 64 + 1 - n)) cap') w (w1.setCell ⟨B, 5, none⟩ (.slice (some ⟨g, 0, none⟩) (n + (i / 64 + 1 - n)) cap')) := (Sole.grow B hbase (fun j hj => (ho.lt j hj).1) hg hat).trans (Sole.setB _ w1 hb _ _)
  have ST := bit_store Bl P2 O2 (i := i) (by omega) hg1 (longer_ok hok _)
  rw [longer_getD, bitAdd_longer] at ST
  refine ⟨P1, P2, ?_, O2.frozenAt _, rfl, _, ST.1, ST.2.1, ST.2.2⟩
  rw [O2.cellAt (i / 64) (by omega), words_get _ (by rw [longer_length]; split <;> omega), longer_getD]

theorem getD_past {hs : List Nat} {k : Nat} (h : hs.length ≤ k) : hs.getD k 0 = 0 := by
  rw [List.getD_eq_getElem?_getD, List.getElem?_eq_none h]
  rfl

theorem wrap_div (i n : Nat) (h : n ≤ i / 64) (hx : i ≤ 65536) : IntKind.i64.wrap (IntKind.i64.wrap ((i : Int) / 64 + 1) - (n : Int)) = ((i / 64 + 1 - n : Nat) : Int) := by
  rw [IntKind.wrap_i64, IntKind.wrap_i64]
  omega

theorem BitPost.undrew {w : World} {nq base B : Nat} {c : Array Value} {hv : Value} {hs : List Nat} {i : Nat} {e : Ending} {w' : World} (h : BitPost (w.drewN nq) base B c hv hs i e w') : BitPost w base B c hv hs i e w' := by
  obtain ⟨h1, hv', h2, h3, h4⟩ := h
  exact ⟨h1, hv', h2.undrew, h3, h4⟩

set_option maxHeartbeats 400000 in
/-- The word is not there yet. -/
theorem bit34_grow (B base i n cap : Nat) (a : Option Addr) (c : Array Value) (hs : List Nat) (w : World) (hB : Blk w B 62 c) (hb : base ≤ B) (hc : c[5]? = some (.slice a n cap)) (ho : w.ownsRow base 35 1 (.slice a n cap) n (words hs)) (hok : wordsOk hs) (hi : i ≤ 65536) (hl : n ≤ i / 64) :
    Calls Try.prog 34 #[.pointer (some ⟨B, 5, none⟩), .int .i64 (i : Nat)] w (BitPost w base B c (.slice a n cap) hs i) := by
  have hlen : hs.length = n := by have := ho.1; rw [words_length] at this; simpa using this
  have hbase : base ≤ w.heap.size := by have := hB.lt; omega
  have hn : n ≤ 1024 := by omega
  have g5 : w.cell? ⟨B, 5, none⟩ = some (.slice a n cap) := (hB.cell 5).trans hc
  have f5 := hB.frozen 5
  have HX : Hid (hs.getD (i / 64) 0 = 0) := getD_past (by omega)
  have hand := and_form (hs.getD (i / 64) 0) (i % 64) (getD_lt hok _) (Nat.mod_lt _ (by omega))
  rw [HX.out, Nat.zero_testBit, ← HX.out] at hand
  have HG : Hid (∀ nq w1 g cap', w1.ownsRow base 35 1 (.slice (some ⟨g, 0, none⟩) (n + (i / 64 + 1 - n)) cap') (n + (i / 64 + 1 - n)) (words hs ++ noughts (i / 64 + 1 - n)) → (w.drewN nq).grownBy w1 (Value.ownBlock (.slice a n cap)) → ((Value.slice a n cap).ownBlock = some g ∨ g = w.heap.size) → _) := fun nq w1 g cap' h1 h2 h3 => bit_grow (hB.drewN nq) hc hb ho hok hl h1 h2 h3
  have HO := hid ho
  have HC := hid hc
  have hc5 : 5 < c.size := by
    obtain ⟨hlt, _⟩ := Array.getElem?_eq_some_iff.1 hc
    exact hlt
  clear hB ho hc hlen hok
  generalize hs.getD (i / 64) 0 = x at *
  go_enter Try.func34, Try.ntmps34
  go_wp2
  go_quiet (fail)
  go_wp2
  go_region_law (refine step_append_zeros _ rfl (.tmp 21) (.tmp 28) 58 rfl Try.underlying58 base (.slice a n cap) n (words hs) (by simp [Act.eval, Act.put]) (by exact HO.out) (i / 64 + 1 - n) _ (by simp [Act.eval, Act.put]) (wrap_div i n hl hi) (by omega) (by omega) hbase ?_; intro g cap' w1 hown1 hgrow1 hat1 hlt1; obtain ⟨P1, P2, cu, fu, SP⟩ := HG.out nq w1 g cap' hown1 ⟨hgrow1.os, hgrow1.tape, hgrow1.output, hgrow1.size, hgrow1.block⟩ hat1; have c0' := (P1.cell 5).trans HC.out; have f0' := P1.frozen 5; have c0'' := P2.cell 5; rw [Array.getElem?_setIfInBounds_self_of_lt hc5] at c0''; rw [show (!x.testBit (i % 64)) = true from by rw [HX.out]; simp] at SP; have HSP := hid SP.undrew; clear P1 P2 SP hown1 hgrow1 hat1 hlt1)
  all_goals
    go_wp2
    go_ret
    exact HSP.out

/-- bitset.add, wherever the bit lies. -/
theorem bit34 (B base i : Nat) (c : Array Value) (hv : Value) (hs : List Nat) (w : World) (hB : Blk w B 62 c) (hb : base ≤ B) (hc : c[5]? = some hv) (ho : w.ownsRow base 35 1 hv hs.length (words hs)) (hok : wordsOk hs) (hi : i ≤ 65536) :
    Calls Try.prog 34 #[.pointer (some ⟨B, 5, none⟩), .int .i64 (i : Nat)] w (BitPost w base B c hv hs i) := by
  by_cases hl : i / 64 < hs.length
  · obtain ⟨g, cap, rfl, hg, _⟩ := ho.form (by omega)
    exact bit34_in B base i g hs.length cap c hs w hB hc ho hg hok hi hl
  · obtain ⟨a, cap, rfl⟩ : ∃ a cap, hv = .slice a hs.length cap := by
      rcases ho.2 with ⟨e1, e2⟩ | ⟨g, cap, cur, e1, _⟩
      · exact ⟨none, 0, by rw [e1, e2]⟩
      · exact ⟨_, _, e1⟩
    exact bit34_grow B base i hs.length cap a c hs w hB hb hc ho hok hi (by omega)

end Go.Proofs.Qxb6603185a
