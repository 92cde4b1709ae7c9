/-
  THE PROOF OF 'Rows.FnTallyAddCaseTableSaid'. The frame after the guide's template; nine parameters, two of them structs by value.
-/
import Derived.Test.Qxb6603185aTable
import Derived.ProofKit
import Derived.OpenShut
import Derived.ChangeOld
import Derived.Below
import Derived.Lib.SmallJoins
namespace Go.Proofs.Qxb6603185a.fnTallyAddCaseTable
open Go.ChangeShapes Go.WideShapes Go.ChangeAt Go.RowKit Go.Joins

theorem own : ownKnob Try.prog.godebug = none := by kernel_rfl
theorem laidOut : laidOutB Try.prog = true := by kernel_rfl
theorem cells39 : Try.prog.cellsOf 39 = 3 := by kernel_rfl

/-- A slice of words that came in. -/
theorem words_in {H : Type} {enc : TypeId × Value → H} {W : World} {a : Option Addr} {n c fuel : Nat} {x : DataW H × List MemPlace} (h : DataW.trod enc Try.prog W 0 (fun _ => true) true fuel 28 [.slice a n c] = some x) :
    n ≤ maxLen ∧ (a = none → n = 0) ∧ ∃ F : Nat → Nat, CellsAt W a n (fun j => .int .u64 (F j : Nat)) ∧ ∀ j, j < n → F j < 18446744073709551616 := by
  rcases open_ints Try.underlying28 Try.underlying35 (by kernel_rfl) h with ⟨hcs, _⟩ | ⟨ad, l, c', zs, hcs, _, hl, hm, hz, _, hcell, hwz⟩
  · simp at hcs
    obtain ⟨rfl, rfl, rfl⟩ := hcs
    exact ⟨Nat.zero_le _, fun _ => rfl, fun _ => 0, .inl rfl, fun j hj => absurd hj (Nat.not_lt_zero _)⟩
  · simp at hcs
    obtain ⟨rfl, rfl, rfl⟩ := hcs
    simp only [if_true] at hz
    have hb : ∀ j, j < n → 0 ≤ zs.getD j 0 ∧ zs.getD j 0 ≤ 18446744073709551615 := by
      intro j hj
      refine bounds_u64 (hwz _ ?_)
      rw [List.getD_eq_getElem?_getD, List.getElem?_eq_getElem (by omega)]
      exact List.getElem_mem _
    refine ⟨Nat.le_trans hl hm, (fun hh => by cases hh), fun j => (zs.getD j 0).toNat, ?_, fun j hj => by have := hb j hj; show (zs.getD j 0).toNat < _; omega⟩
    by_cases h0 : n = 0
    · exact .inl h0
    · obtain ⟨b, off, spot⟩ := ad
      have h6 := hcell 0 (by omega)
      have hspot : spot = none := by simpa [Addr.add] using World.cell?_spot h6
      subst hspot
      refine .inr ⟨b, off, rfl, fun r hr => ?_⟩
      have h7 := hb r hr
      show _ = some (Value.int .u64 (((zs.getD r 0).toNat : Nat) : Int))
      rw [← add_plain, hcell r (by omega), Int.toNat_of_nonneg h7.1]

set_option maxRecDepth 100000 in
set_option maxHeartbeats 1000000 in
theorem lifted (os : Os) (started : os.Started) (H : Type) (enc : TypeId × Value → H) :
    ReturnsInHanded {} Try.checked os 5 .any (Rows.fnTallyAddCaseTableSpec.pre6 enc Try.prog Try.f5 Rows.fnTallyAddCaseTableRow.domain false) (Rows.fnTallyAddCaseTableSpec.post enc Try.prog Try.f5 false true false false) := by
  refine returnsInHanded_of_change (C := Try.checked) own started (by kernel_rfl) Try.func5
    (ChangeSpec.witness6 (enc := enc) (C := Try.checked) false ⟨#[], #[.int .u64 0, .agg #[.int .i64 0, .int .u64 0, .int .u64 0], .int .u64 0, .slice none 0 0, .int .i64 0, .bool false, .int .u64 0, .agg #[.int .i64 0, .int .u64 0, .int .u64 0], .int .i64 0], []⟩ 8 (by kernel_rfl) (by kernel_rfl) (by kernel_rfl) (by kernel_rfl)) ?_
  intro W base args ds gs before hval0 hW hcnd _
  have hval : ∀ (j : Nat) t v, Try.f5.params[j]? = some t → args[j]? = some v → Value.okWide Try.prog W .any base t v := hval0
  have hW' := hW
  obtain ⟨p, q, hA0, hV, rfl, hfz, hnd⟩ := hW
  have hA : DataW.TrodAll enc Try.prog W 0 (fun _ => true) true Try.f5.params.toList args.toList ds p := hA0
  rw [Try.params5] at hA hval
  obtain ⟨v0, vs0, d0, ds0, p0, q0, hargs, rfl, rfl, h0, r0⟩ := trodAll_cons hA
  obtain ⟨v1, vs1, d1, ds1, p1, q1, rfl, rfl, rfl, h1, r1⟩ := trodAll_cons r0
  obtain ⟨v2, vs2, d2, ds2, p2, q2, rfl, rfl, rfl, h2, r2⟩ := trodAll_cons r1
  obtain ⟨v3, vs3, d3, ds3, p3, q3, rfl, rfl, rfl, h3, r3⟩ := trodAll_cons r2
  obtain ⟨v4, vs4, d4, ds4, p4, q4, rfl, rfl, rfl, h4, r4⟩ := trodAll_cons r3
  obtain ⟨v5, vs5, d5, ds5, p5, q5, rfl, rfl, rfl, h5, r5⟩ := trodAll_cons r4
  obtain ⟨v6, vs6, d6, ds6, p6, q6, rfl, rfl, rfl, h6, r6⟩ := trodAll_cons r5
  obtain ⟨v7, vs7, d7, ds7, p7, q7, rfl, rfl, rfl, h7, r7⟩ := trodAll_cons r6
  obtain ⟨v8, vs8, d8, ds8, p8, q8, rfl, rfl, rfl, h8, r8⟩ := trodAll_cons r7
  obtain ⟨rfl, rfl, rfl⟩ := trodAll_nil r8
  obtain rfl : args = #[v0, v1, v2, v3, v4, v5, v6, v7, v8] := by cases args; simp_all
  obtain ⟨rfl, rfl⟩ := trodVars_none hV
  have u0 := hval 0 35 v0 rfl rfl
  have u1 := hval 1 39 v1 rfl rfl
  have u2 := hval 2 35 v2 rfl rfl
  have u3 := hval 3 28 v3 rfl rfl
  have u4 := hval 4 3 v4 rfl rfl
  have u5 := hval 5 4 v5 rfl rfl
  have u6 := hval 6 35 v6 rfl rfl
  have u7 := hval 7 39 v7 rfl rfl
  have u8 := hval 8 3 v8 rfl rfl
  clear hA hval hA0 hval0 r0 r1 r2 r3 r4 r5 r6 r7 r8
  have lt : ∀ {t : TypeId} {v : Value} {d : DataW H} {p : List MemPlace}, DataW.Trod enc Try.prog W 0 (fun _ => true) true t v d p → ∀ x ∈ p, x.block < W.heap.size := fun k => by obtain ⟨m, hm⟩ := k; exact DataW.trod_lt m _ _ _ hm
  have argsK : ∀ W', Below W.heap.size W W' → DataW.TrodAll enc Try.prog W' 0 (fun b => decide (b < W.heap.size)) true [35, 39, 35, 28, 3, 4, 35, 39, 3] [v0, v1, v2, v3, v4, v5, v6, v7, v8] [d0, d1, d2, d3, d4, d5, d6, d7, d8] (p0 ++ (p1 ++ (p2 ++ (p3 ++ (p4 ++ (p5 ++ (p6 ++ (p7 ++ (p8 ++ []))))))))) := fun W' bel =>
    trodAll_cons_mk (Below.trod laidOut (by kernel_rfl) (of_decide_eq_true (by kernel_rfl)) h0 bel (lt h0)) (trodAll_cons_mk (Below.trod laidOut (by kernel_rfl) (of_decide_eq_true (by kernel_rfl)) h1 bel (lt h1)) (trodAll_cons_mk (Below.trod laidOut (by kernel_rfl) (of_decide_eq_true (by kernel_rfl)) h2 bel (lt h2)) (trodAll_cons_mk (Below.trod laidOut (by kernel_rfl) (of_decide_eq_true (by kernel_rfl)) h3 bel (lt h3)) (trodAll_cons_mk (Below.trod laidOut (by kernel_rfl) (of_decide_eq_true (by kernel_rfl)) h4 bel (lt h4)) (trodAll_cons_mk (Below.trod laidOut (by kernel_rfl) (of_decide_eq_true (by kernel_rfl)) h5 bel (lt h5)) (trodAll_cons_mk (Below.trod laidOut (by kernel_rfl) (of_decide_eq_true (by kernel_rfl)) h6 bel (lt h6)) (trodAll_cons_mk (Below.trod laidOut (by kernel_rfl) (of_decide_eq_true (by kernel_rfl)) h7 bel (lt h7)) (trodAll_cons_mk (Below.trod laidOut (by kernel_rfl) (of_decide_eq_true (by kernel_rfl)) h8 bel (lt h8)) trodAll_mk0))))))))
  obtain ⟨x0, rfl, rfl, rfl, w0⟩ := open_int Try.underlying35 u0 h0
  obtain ⟨s0, s1, s2, y0, y1, y2, m1, rfl, rfl, rfl, g0, g1, g2⟩ := open_agg3 Try.underlying39 (by kernel_rfl) cells39 u1 h1
  obtain ⟨ts, e0, rfl, wt0⟩ := DataW.trod_int Try.underlying3 g0
  obtain ⟨tq, e1, rfl, wt1⟩ := DataW.trod_int Try.underlying35 g1
  obtain ⟨te, e2, rfl, wt2⟩ := DataW.trod_int Try.underlying35 g2
  simp at e0 e1 e2
  subst e0 e1 e2
  obtain ⟨x2, rfl, rfl, rfl, w2⟩ := open_int Try.underlying35 u2 h2
  obtain ⟨a3, n3, c3, rfl⟩ := okWide_slice Try.underlying28 u3
  obtain ⟨x4, rfl, rfl, rfl, w4⟩ := open_int Try.underlying3 u4 h4
  obtain ⟨x5, rfl, rfl, rfl⟩ := open_bool Try.underlying4 u5 h5
  obtain ⟨x6, rfl, rfl, rfl, w6⟩ := open_int Try.underlying35 u6 h6
  obtain ⟨s3, s4, s5, y3, y4, y5, m2, rfl, rfl, rfl, g3, g4, g5⟩ := open_agg3 Try.underlying39 (by kernel_rfl) cells39 u7 h7
  obtain ⟨is, e3, rfl, wi0⟩ := DataW.trod_int Try.underlying3 g3
  obtain ⟨iq, e4, rfl, wi1⟩ := DataW.trod_int Try.underlying35 g4
  obtain ⟨ie, e5, rfl, wi2⟩ := DataW.trod_int Try.underlying35 g5
  simp at e3 e4 e5
  subst e3 e4 e5
  obtain ⟨x8, rfl, rfl, rfl, w8⟩ := open_int Try.underlying3 u8 h8
  obtain ⟨l, rfl⟩ : ∃ l : Nat, x2 = l := ⟨x2.toNat, by have := bounds_u64 w2; omega⟩
  have hl : l < 18446744073709551616 := by have := bounds_u64 w2; omega
  obtain ⟨p1, p2, F, p3, p4⟩ : n3 ≤ maxLen ∧ (a3 = none → n3 = 0) ∧ ∃ F : Nat → Nat, CellsAt W a3 n3 (fun j => .int .u64 (F j : Nat)) ∧ ∀ j, j < n3 → F j < 18446744073709551616 := by
    obtain ⟨fuel, hf⟩ := h3
    exact words_in (by simpa [Value.cells] using hf)
  refine (table5 x0 ts tq te x4 l x5 n3 c3 a3 F x6 is iq ie x8 W p1 p2 p3 p4 hl).mono fun e W' ⟨he, bel⟩ => ?_
  subst he
  exact ⟨_, rfl, _, _, _, [], _, [], hW', trodAll_mk1 (shut_bool Try.underlying4 _), argsK W' bel, rfl, bel.frame _, fun h => by cases h⟩

theorem over : Rows.fnTallyAddCaseTableRow.holds Try.pinned (OpenSpec.ofChange Rows.fnTallyAddCaseTableSpec) :=
  OpenClaim.holds_of_wide 5 Try.f5 rfl rfl rfl rfl rfl rfl rfl ⟨rfl, rfl, rfl, rfl, rfl⟩ rfl rfl rfl rfl rfl (by kernel_rfl) Try.func5 (by kernel_rfl)
    (of_decide_eq_true (by kernel_rfl)) (by unfold Func.isWrapper; first | (rw [if_pos (by decide +kernel)]; kernel_rfl) | (rw [if_neg (by decide +kernel)]; exact ⟨rfl, rfl⟩))
    (fun os started H enc _ => lifted os started H enc)

/-- THE STATEMENT. -/
theorem proved : Rows.FnTallyAddCaseTableSaid := over
#print axioms proved
end Go.Proofs.Qxb6603185a.fnTallyAddCaseTable
