/-
  'append(s, make([]uint64, k)...)': the translation hands the builtin the number k. A law for a slice that the call owns (nil, with room, or without).
-/
import Derived.Test.Qxb6603185aBase
import Derived.Lib.AppendZerosOnto
import Derived.Deep.RegionLaw
import Derived.Deep.AppendLies
namespace Go.Proofs.Qxb6603185a
open Go.RowKit

theorem info35 : (Try.prog.info? 35).map (fun i => (i.zero, i.size, i.bytes)) = some (some (.int .u64 0), 1, 8) := by kernel_rfl

/-- A fact put behind 'Hid', its statement as it is. -/
theorem hid {p : Prop} (h : p) : Hid p := h

/-- k words of nought. -/
def noughts (k : Nat) : List Value := List.replicate k (.int .u64 0)

theorem zeroCells_noughts (k : Nat) : Builtin.zeroCells #[.int .u64 0] k = (noughts k).toArray := by
  apply Array.ext
  · simp [Builtin.zeroCells, noughts]
  · intro i h1 h2
    simp [Builtin.zeroCells, noughts, Nat.mod_one]

theorem noughts_one (k : Nat) : ∀ u ∈ noughts k, u.oneCell' = true := by
  intro u hu
  obtain ⟨_, rfl⟩ := List.mem_replicate.1 hu
  rfl

theorem run_append_zeros (w : World) (t ty : TypeId) (ht : Try.prog.underlying t = some (.slice 35)) (base : Nat) (v : Value) (n : Nat) (xs : List Value) (hown : w.ownsRow base 35 1 v n xs) (k : Nat) (hk : 0 < k) (hbd : n + k ≤ 1073741824) (hbase : base ≤ w.heap.size) :
    ∃ g cap w', (Builtin.append_ #[t, 3] ty #[v, .int .i64 (k : Nat)]).run Try.prog w = .ok (.slice (some ⟨g, 0, none⟩) (n + k) cap) w' ∧
      w'.ownsRow base 35 1 (.slice (some ⟨g, 0, none⟩) (n + k) cap) (n + k) (xs ++ noughts k) ∧ w.grownBy w' v.ownBlock ∧ (v.ownBlock = some g ∨ g = w.heap.size) ∧ g < w'.heap.size := by
  obtain ⟨i, hi, hz, hs, hb⟩ := info_parts info35
  have hxl : xs.length = n := by simpa using hown.1
  have hnl : (noughts k).length = k := by simp [noughts]
  have grown : ∀ old, old < n + k → ∀ row : Option Nat,
      (w.drew.alloc (.cells (xs.toArray ++ Builtin.zeroCells #[.int .u64 0] k ++ Builtin.zeroCells #[.int .u64 0] (grownCap w (n + k) old 35 - (n + k))) 35)).ownsRow base 35 1
        (.slice (some ⟨w.heap.size, 0, none⟩) (n + k) (grownCap w (n + k) old 35)) (n + k) (xs ++ noughts k) ∧
      w.grownBy (w.drew.alloc (.cells (xs.toArray ++ Builtin.zeroCells #[.int .u64 0] k ++ Builtin.zeroCells #[.int .u64 0] (grownCap w (n + k) old 35 - (n + k))) 35)) row := by
    intro old ho row
    have hge := grownCap_ge w (n + k) old 35
    have hcm : grownCap w (n + k) old 35 ≤ maxLen := grownCap_le_maxLen w (n + k) old 35 (by unfold maxLen; omega)
    refine ⟨⟨by simp [hxl, hnl], .inr ⟨w.heap.size, _, _, rfl, hbase, heap_alloc_new w.drew _, hge, hcm, ?_, ?_⟩⟩, ⟨rfl, rfl, rfl, by simp, fun j hj _ => Below.heap_alloc w.drew _ j hj⟩⟩
    · simp only [zeroCells_noughts, Array.size_append, List.size_toArray, hxl, hnl]
      simp [noughts]
      omega
    · simp only [zeroCells_noughts, Array.toList_append, Nat.mul_one]
      rw [List.take_append_of_le_length (by simp [hxl, hnl])]
      rw [List.take_of_length_le (by simp [hxl, hnl])]
  rcases hown.2 with ⟨rfl, rfl⟩ | ⟨g, cap, cur, rfl, hbg, hg, hnc, hcm, hcs, htake⟩
  · have hx : xs = [] := List.eq_nil_of_length_eq_zero (by simpa using hxl)
    subst hx
    have hr := Lib.run_append_nil_zeros (P := Try.prog) w t 3 ty 35 i (.int .u64 0) .i64 .i64 ht Try.underlying3 hi hz k hk (by omega) (by omega) (by rw [hb]; omega)
    have hgr := grown 0 (by omega) (Value.ownBlock (.slice none 0 0))
    simp only [Nat.zero_add, List.nil_append, Array.empty_append] at hgr ⊢
    exact ⟨_, _, _, hr, hgr.1, hgr.2, .inr rfl, by simp⟩
  · have hglt : g < w.heap.size := by
      rcases Nat.lt_or_ge g w.heap.size with hlt | hge
      · exact hlt
      · rw [Array.getElem?_eq_none hge] at hg; cases hg
    by_cases hroom : n + k ≤ cap
    · have hst := run_storeCells_at Try.prog g n 35 (noughts k) 0 cur w hg (by rw [hnl, hcs]; omega) (noughts_one k)
      simp only [Nat.add_zero] at hst
      have hw : IntKind.i64.wrap (k : Int) = k := by rw [IntKind.wrap_i64]; omega
      have hneg : ¬ ((k : Int) < 0) := by omega
      have h48i : ¬ (281474976710656 < (k : Int) * (8 : Int)) := by omega
      have hk0 : k ≠ 0 := by omega
      have hr : (Builtin.append_ #[t, 3] ty #[.slice (some ⟨g, 0, none⟩) n cap, .int .i64 (k : Nat)]).run Try.prog w =
          .ok (.slice (some ⟨g, 0, none⟩) (n + k) cap) (w.setRow g (cur.toList.take n ++ noughts k ++ cur.toList.drop (n + (noughts k).length)).toArray) := by
        simp [Builtin.append_, run_underlying ht, run_underlying Try.underlying3, sizeOf, typeInfo, zeroValue, hi, hz, hs, hb, asInt, asIntOf, hw, hneg, h48i, hk0, hroom, show (Value.int IntKind.u64 0).cells = #[Value.int IntKind.u64 0] from rfl, zeroCells_noughts, Addr.add_lit, hst]
      refine ⟨_, _, _, hr, ⟨by simp [hxl, hnl], .inr ⟨g, cap, _, rfl, hbg, setRow_heap w g cur _ 35 _ hg, hroom, hcm, ?_, ?_⟩⟩, ⟨rfl, rfl, rfl, by simp, fun j _ hj => setRow_other w g j _ (fun e => hj (by simp [Value.ownBlock, e]))⟩, .inl rfl, by simpa using hglt⟩
      · simp only [List.size_toArray, List.length_append, List.length_take, List.length_drop, Array.length_toList, hnl]
        omega
      · simp only [Nat.mul_one] at htake hcs ⊢
        rw [htake]
        rw [List.take_append_of_le_length (by simp [hxl, hnl])]
        rw [List.take_of_length_le (by simp [hxl, hnl])]
    · have holds : (Builtin.firstCells i.size n (.slice (some ⟨g, 0, none⟩) n cap)).run Try.prog w.drew = .ok xs.toArray w.drew :=
        run_firstCells_some (P := Try.prog) w.drew i.size n ⟨g, 0, none⟩ n cap xs (by rw [hs, hxl]; omega) (hown.cells (g := g) rfl)
      have hnext := nextslicecap_le (need := n + k) (old := cap) (by omega)
      have hr := Lib.run_append_grow_zeros (P := Try.prog) w t 3 ty 35 i (.int .u64 0) .i64 .i64 ht Try.underlying3 hi hz (some ⟨g, 0, none⟩) n cap xs holds k hk (by omega) (by omega) (by omega) (by rw [hb]; omega) (by rw [hb]; omega)
      have hgr := grown cap (by omega) (Value.ownBlock (.slice (some ⟨g, 0, none⟩) n cap))
      exact ⟨_, _, _, hr, hgr.1, hgr.2, .inr rfl, by simp⟩

/-- At the operation. -/
theorem wp_append_zeros (w : World) {o : Oper} {a : Act} {K : Act → World → Prop} {Q : Exit → Act → World → Prop} (s x : Operand) (t : TypeId)
    (ho : o.op = .call { callee := .builtin .append, args := #[s, x], argTypes := #[t, 3] }) (ht : Try.prog.underlying t = some (.slice 35))
    (base : Nat) (v : Value) (n : Nat) (xs : List Value) (hs : a.eval s = v) (hown : w.ownsRow base 35 1 v n xs) (k : Nat) (q : Int) (hx : a.eval x = .int .i64 q) (hq : q = (k : Nat)) (hk : 0 < k) (hbd : n + k ≤ 1073741824) (hbase : base ≤ w.heap.size)
    (h : ∀ g cap w', w'.ownsRow base 35 1 (.slice (some ⟨g, 0, none⟩) (n + k) cap) (n + k) (xs ++ noughts k) → w.grownBy w' v.ownBlock → (v.ownBlock = some g ∨ g = w.heap.size) → g < w'.heap.size → K (a.put o.dst (.slice (some ⟨g, 0, none⟩) (n + k) cap)) w') : o.wp Try.prog a w K Q := by
  obtain ⟨g, cap, w', hr, h2, h3, h4, h5⟩ := run_append_zeros w t o.type ht base v n xs hown k hk hbd hbase
  subst hq
  unfold Oper.wp execOp
  simp only [ho, resolve, invoke, builtin, Sem.run_bind, Sem.run_pure, Result.andThen_ok, List.map_toArray, List.map_cons, List.map_nil, hs, hx, hr]
  exact h g cap w' h2 h3 h4 h5

/-- At a step of a region that draws its order. -/
theorem step_append_zeros (w : World) {ops : Array Oper} {o : Oper} {a : Act} {K : Act → World → Prop} {Q : Exit → Act → World → Prop} {E : Prop} (hgd : o.guard = none) (s x : Operand) (t : TypeId)
    (ho : o.op = .call { callee := .builtin .append, args := #[s, x], argTypes := #[t, 3] }) (ht : Try.prog.underlying t = some (.slice 35))
    (base : Nat) (v : Value) (n : Nat) (xs : List Value) (hs : a.eval s = v) (hown : w.ownsRow base 35 1 v n xs) (k : Nat) (q : Int) (hx : a.eval x = .int .i64 q) (hq : q = (k : Nat)) (hk : 0 < k) (hbd : n + k ≤ 1073741824) (hbase : base ≤ w.heap.size)
    (h : ∀ g cap w', w'.ownsRow base 35 1 (.slice (some ⟨g, 0, none⟩) (n + k) cap) (n + k) (xs ++ noughts k) → w.grownBy w' v.ownBlock → (v.ownBlock = some g ∨ g = w.heap.size) → g < w'.heap.size → K (a.put o.dst (.slice (some ⟨g, 0, none⟩) (n + k) cap)) w') :
    if Region.wanted o (yielded ops a.tmps) = true then Oper.wp Try.prog o a w K Q else E := by
  have hw : Region.wanted o (yielded ops a.tmps) = true := by simp [Region.wanted, hgd]
  rw [if_pos hw]
  exact wp_append_zeros w s x t ho ht base v n xs hs hown k q hx hq hk hbd hbase h

end Go.Proofs.Qxb6603185a
