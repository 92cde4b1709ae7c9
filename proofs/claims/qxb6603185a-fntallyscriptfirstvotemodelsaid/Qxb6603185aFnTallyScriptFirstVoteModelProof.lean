/-
  THE PROOF OF 'Rows.FnTallyScriptFirstVoteModelSaid'. The frame after the guide's template; the argument is a slice of structs: opened by 'open_slice' (Derived/Deep/Slices.lean) and 'trod_struct3' twice.
-/
import Derived.Test.Qxb6603185aFirst
import Derived.ProofKit
import Derived.OpenShut
import Derived.ChangeOld
import Derived.Below
import Derived.Deep.Slices
import Derived.Deep.Strs
namespace Go.Proofs.Qxb6603185a.fnTallyScriptFirstVoteModel
open Go.ChangeShapes Go.WideShapes Go.ChangeAt Go.RowKit Go.Deep

theorem own : ownKnob Try.prog.godebug = none := by kernel_rfl
theorem laidOut : laidOutB Try.prog = true := by kernel_rfl
theorem cells49 : Try.prog.cellsOf 49 = 5 := by kernel_rfl
theorem cells39 : Try.prog.cellsOf 39 = 3 := by kernel_rfl
theorem cells35 : Try.prog.cellsOf 35 = 1 := by kernel_rfl
theorem cells3 : Try.prog.cellsOf 3 = 1 := by kernel_rfl

/-- One vote that came in. -/
theorem vote_in {H : Type} {enc : TypeId × Value → H} {W : World} {fuel : Nat} {cs : List Value} {x : DataW H × List MemPlace} (h : DataW.trod enc Try.prog W 0 (fun _ => true) true fuel 49 cs = some x) :
    ∃ q : Int × Int × Int × Int × Int, cs = [.int .u64 q.1, .int .i64 q.2.1, .int .u64 q.2.2.1, .int .u64 q.2.2.2.1, .int .i64 q.2.2.2.2] ∧ 0 ≤ q.1 := by
  obtain ⟨y0, y1, y2, k, _, hlen, h0, h1, h2⟩ := trod_struct3 Try.underlying49 h
  rw [cells49] at hlen
  match cs, hlen with
  | [c0, c1, c2, c3, c4], _ =>
    simp only [cells35, cells39, cells3] at h0 h1 h2
    obtain ⟨z0, z1, z2, k', _, _, g0, g1, g2⟩ := trod_struct3 Try.underlying39 h1
    simp only [cells35, cells3] at g0 g1 g2
    obtain ⟨i0, e0, _, w0⟩ := DataW.trod_int Try.underlying35 h0
    obtain ⟨i1, e1, _, _⟩ := DataW.trod_int Try.underlying3 g0
    obtain ⟨i2, e2, _, _⟩ := DataW.trod_int Try.underlying35 g1
    obtain ⟨i3, e3, _, _⟩ := DataW.trod_int Try.underlying35 g2
    obtain ⟨i4, e4, _, _⟩ := DataW.trod_int Try.underlying3 h2
    simp at e0 e1 e2 e3 e4
    subst e0 e1 e2 e3 e4
    exact ⟨(i0, i1, i2, i3, i4), rfl, (bounds_u64 w0).1⟩

/-- A script that came in. -/
theorem votes_in {H : Type} {enc : TypeId × Value → H} {W : World} {a : Option Addr} {n c fuel : Nat} {x : DataW H × List MemPlace} (h : DataW.trod enc Try.prog W 0 (fun _ => true) true fuel 46 [.slice a n c] = some x) :
    n ≤ maxLen ∧ (a = none → n = 0) ∧ ∃ z : Script, VotesAt W a n z ∧ ∀ r, r < n → 0 ≤ z.T r := by
  rcases open_slice Try.underlying46 h with ⟨hcs, _⟩ | ⟨ad, len, cap, m, k, D, Pl, hcs, _, hl, hm, hmm, _, hel⟩
  · simp at hcs
    obtain ⟨rfl, rfl, rfl⟩ := hcs
    exact ⟨Nat.zero_le _, fun _ => rfl, ⟨fun _ => 0, fun _ => 0, fun _ => 0, fun _ => 0, fun _ => 0⟩, .inl rfl, fun j hj => absurd hj (Nat.not_lt_zero _)⟩
  · simp at hcs
    obtain ⟨rfl, rfl, rfl⟩ := hcs
    have hlm : n ≤ m := by rw [hmm]; split <;> omega
    rw [cells49] at hel
    have each : ∀ i, i < n → ∃ q : Int × Int × Int × Int × Int, W.cell? (ad.add (i * 5)) = some (.int .u64 q.1) ∧ W.cell? (ad.add (i * 5 + 1)) = some (.int .i64 q.2.1) ∧ W.cell? (ad.add (i * 5 + 2)) = some (.int .u64 q.2.2.1) ∧ W.cell? (ad.add (i * 5 + 3)) = some (.int .u64 q.2.2.2.1) ∧ W.cell? (ad.add (i * 5 + 4)) = some (.int .i64 q.2.2.2.2) ∧ 0 ≤ q.1 := by
      intro i hi
      obtain ⟨cs', h1, h2⟩ := hel i (by omega)
      obtain ⟨_, hlen, hcell⟩ := World.cells?_some h1
      obtain ⟨q, rfl, hq⟩ := vote_in h2
      have e0 := hcell 0 (by omega)
      have e1 := hcell 1 (by omega)
      have e2 := hcell 2 (by omega)
      have e3 := hcell 3 (by omega)
      have e4 := hcell 4 (by omega)
      rw [add_add] at e0 e1 e2 e3 e4
      exact ⟨q, by simpa using e0, by simpa using e1, by simpa using e2, by simpa using e3, by simpa using e4, hq⟩
    obtain ⟨q, hq⟩ := choose_lt each
    refine ⟨Nat.le_trans hl hm, (fun hh => by cases hh), ⟨fun r => (q r).1, fun r => (q r).2.1, fun r => (q r).2.2.1, fun r => (q r).2.2.2.1, fun r => (q r).2.2.2.2⟩, ?_, fun r hr => (hq r hr).2.2.2.2.2⟩
    by_cases h0 : n = 0
    · exact .inl h0
    · obtain ⟨b, off, spot⟩ := ad
      have h6 := (hq 0 (by omega)).1
      have hspot : spot = none := by simpa [Addr.add] using World.cell?_spot h6
      subst hspot
      refine .inr ⟨b, off, rfl, fun r hr => ?_⟩
      obtain ⟨a0, a1, a2, a3, a4, _⟩ := hq r hr
      rw [add_plain] at a0 a1 a2 a3 a4
      exact ⟨a0, a1, a2, a3, a4⟩

set_option maxRecDepth 100000 in
theorem lifted (os : Os) (started : os.Started) (H : Type) (enc : TypeId × Value → H) :
    ReturnsInHanded {} Try.checked os 6 .any (Rows.fnTallyScriptFirstVoteModelSpec.pre6 enc Try.prog Try.f6 Rows.fnTallyScriptFirstVoteModelRow.domain false) (Rows.fnTallyScriptFirstVoteModelSpec.post enc Try.prog Try.f6 false true false false) := by
  refine returnsInHanded_of_change (C := Try.checked) own started (by kernel_rfl) Try.func6
    (ChangeSpec.witness6 (enc := enc) (C := Try.checked) false ⟨#[], #[.slice none 0 0], []⟩ 8 (by kernel_rfl) (by kernel_rfl) (by kernel_rfl) (by kernel_rfl)) ?_
  intro W base args ds gs before hval0 hW hcnd _
  have hval : ∀ (j : Nat) t v, Try.f6.params[j]? = some t → args[j]? = some v → Value.okWide Try.prog W .any base t v := hval0
  have hW' := hW
  obtain ⟨p, q, hA0, hV, rfl, hfz, hnd⟩ := hW
  have hA : DataW.TrodAll enc Try.prog W 0 (fun _ => true) true Try.f6.params.toList args.toList ds p := hA0
  rw [Try.params6] at hA hval
  obtain ⟨v0, vs0, d0, ds0, p0, q0, hargs, rfl, rfl, h0, r0⟩ := trodAll_cons hA
  obtain ⟨rfl, rfl, rfl⟩ := trodAll_nil r0
  obtain rfl : args = #[v0] := by cases args; simp_all
  obtain ⟨rfl, rfl⟩ := trodVars_none hV
  obtain ⟨a0, len0, cap0, rfl⟩ := okWide_slice Try.underlying46 (hval 0 46 v0 rfl rfl)
  have k0 := h0
  have lt0 : ∀ x ∈ p0, x.block < W.heap.size := by obtain ⟨m, hm⟩ := k0; exact DataW.trod_lt m _ _ _ hm
  obtain ⟨m0, z0, z, hv, hT⟩ : len0 ≤ maxLen ∧ (a0 = none → len0 = 0) ∧ ∃ z : Script, VotesAt W a0 len0 z ∧ ∀ r, r < len0 → 0 ≤ z.T r := by
    obtain ⟨fuel, hf⟩ := h0
    exact votes_in (by simpa [Value.cells] using hf)
  clear hA0 hval0
  refine (first6 a0 len0 cap0 z W m0 z0 hv hT).mono fun e W' ⟨he, bel⟩ => ?_
  subst he
  exact ⟨_, rfl, _, _, _, [], _, [], hW', trodAll_mk1 (shut_bool Try.underlying4 _), (trodAll_cons_mk (Below.trod laidOut (by kernel_rfl) (of_decide_eq_true (by kernel_rfl)) k0 bel lt0) trodAll_mk0), rfl, bel.frame _, fun h => by cases h⟩

theorem over : Rows.fnTallyScriptFirstVoteModelRow.holds Try.pinned (OpenSpec.ofChange Rows.fnTallyScriptFirstVoteModelSpec) :=
  OpenClaim.holds_of_wide 6 Try.f6 rfl rfl rfl rfl rfl rfl rfl ⟨rfl, rfl, rfl, rfl, rfl⟩ rfl rfl rfl rfl rfl (by kernel_rfl) Try.func6 (by kernel_rfl)
    (of_decide_eq_true (by kernel_rfl)) (by unfold Func.isWrapper; first | (rw [if_pos (by decide +kernel)]; kernel_rfl) | (rw [if_neg (by decide +kernel)]; exact ⟨rfl, rfl⟩))
    (fun os started H enc _ => lifted os started H enc)

/-- THE STATEMENT. -/
theorem proved : Rows.FnTallyScriptFirstVoteModelSaid := over
#print axioms proved
end Go.Proofs.Qxb6603185a.fnTallyScriptFirstVoteModel
