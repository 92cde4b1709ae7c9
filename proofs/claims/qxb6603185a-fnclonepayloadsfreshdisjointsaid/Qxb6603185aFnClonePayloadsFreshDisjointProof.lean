/-
  THE PROOF OF 'Rows.FnClonePayloadsFreshDisjointSaid'. The frame after the guide's template; the argument is opened by 'open_int_rows' (Derived/Deep/Matrix.lean).
-/
import Derived.Test.Qxb6603185aFresh
import Derived.ProofKit
import Derived.OpenShut
import Derived.ChangeOld
import Derived.Below
import Derived.Deep.Matrix
namespace Go.Proofs.Qxb6603185a.fnClonePayloadsFreshDisjoint
open Go.ChangeShapes Go.WideShapes Go.ChangeAt Go.RowKit Go.Deep

theorem own : ownKnob Try.prog.godebug = none := by kernel_rfl
theorem laidOut : laidOutB Try.prog = true := by kernel_rfl

/-- What came in, as the walk asks it. -/
theorem pay_of {H : Type} {enc : TypeId × Value → H} {W : World} {ao : Option Addr} {n cap fuel : Nat} {x : DataW H × List MemPlace}
    (h : DataW.trod enc Try.prog W 0 (fun _ => true) true fuel 22 [.slice ao n cap] = some x) : ∃ A L C Z, IsPay W ao n A L C Z := by
  rcases open_int_rows Try.underlying22 Try.underlying25 Try.underlying5 (by kernel_rfl) (by kernel_rfl) h with ⟨hcs, _⟩ | ⟨a, len, cap', A, L, C, Z, hcs, _, hl, hm, _, hrow⟩
  · simp at hcs
    obtain ⟨rfl, rfl, rfl⟩ := hcs
    exact ⟨fun _ => none, fun _ => 0, fun _ => 0, fun _ _ => 0, Nat.zero_le _, fun _ => rfl, .inl rfl, fun r hr => absurd hr (Nat.not_lt_zero _), fun r hr => absurd hr (Nat.not_lt_zero _)⟩
  · simp at hcs
    obtain ⟨rfl, rfl, rfl⟩ := hcs
    refine ⟨A, L, C, fun r j => (Z r).getD j 0, Nat.le_trans hl hm, (fun hh => by cases hh), ?_, fun r hr => ?_, fun r hr => ?_⟩
    · by_cases h0 : n = 0
      · exact .inl h0
      · obtain ⟨b, off, spot⟩ := a
        have h1 := (hrow 0 (by omega)).1
        have hspot : spot = none := by simpa [Addr.add] using World.cell?_spot h1
        subst hspot
        exact .inr ⟨b, off, rfl, fun r hr => by rw [← add_plain]; exact (hrow r (by omega)).1⟩
    · obtain ⟨_, h1, h2, _⟩ := hrow r (by omega)
      omega
    · obtain ⟨_, h1, h2, _, _, h3, h4⟩ := hrow r (by omega)
      constructor
      · by_cases h0 : L r = 0
        · exact .inl h0
        · cases hA : A r with
          | none => have := h3 hA; omega
          | some a' =>
            obtain ⟨b, off, spot⟩ := a'
            have h5 := (h4 _ hA).2
            have h6 := h5 0 (by omega)
            have hspot : spot = none := by simpa [Addr.add] using World.cell?_spot h6
            subst hspot
            exact .inr ⟨b, off, rfl, fun j hj => by rw [← add_plain]; exact h5 j (by omega)⟩
      · intro hA
        have := h3 hA
        omega

set_option maxRecDepth 100000 in
theorem lifted (os : Os) (started : os.Started) (H : Type) (enc : TypeId × Value → H) :
    ReturnsInHanded {} Try.checked os 7 .any (Rows.fnClonePayloadsFreshDisjointSpec.pre6 enc Try.prog Try.f7 Rows.fnClonePayloadsFreshDisjointRow.domain false) (Rows.fnClonePayloadsFreshDisjointSpec.post enc Try.prog Try.f7 false true false false) := by
  refine returnsInHanded_of_change (C := Try.checked) own started (by kernel_rfl) Try.func7
    (ChangeSpec.witness6 (enc := enc) (C := Try.checked) false ⟨#[], #[.slice none 0 0], []⟩ 8 (by kernel_rfl) (by kernel_rfl) (by kernel_rfl) (by kernel_rfl)) ?_
  intro W base args ds gs before hval0 hW hcnd _
  have hval : ∀ (j : Nat) t v, Try.f7.params[j]? = some t → args[j]? = some v → Value.okWide Try.prog W .any base t v := hval0
  have hW' := hW
  obtain ⟨p, q, hA0, hV, rfl, hfz, hnd⟩ := hW
  have hA : DataW.TrodAll enc Try.prog W 0 (fun _ => true) true Try.f7.params.toList args.toList ds p := hA0
  rw [Try.params7] at hA hval
  obtain ⟨v0, vs0, d0, ds0, p0, q0, hargs, rfl, rfl, h0, r0⟩ := trodAll_cons hA
  obtain ⟨rfl, rfl, rfl⟩ := trodAll_nil r0
  obtain rfl : args = #[v0] := by cases args; simp_all
  obtain ⟨rfl, rfl⟩ := trodVars_none hV
  obtain ⟨a0, len0, cap0, rfl⟩ := okWide_slice Try.underlying22 (hval 0 22 v0 rfl rfl)
  have k0 := h0
  have lt0 : ∀ x ∈ p0, x.block < W.heap.size := by obtain ⟨m, hm⟩ := k0; exact DataW.trod_lt m _ _ _ hm
  obtain ⟨A, L, C, Z, w0⟩ : ∃ A L C Z, IsPay W a0 len0 A L C Z := by
    obtain ⟨fuel, hf⟩ := h0
    exact pay_of (by simpa [Value.cells] using hf)
  clear hA0 hval0
  refine (fresh7 a0 len0 cap0 A L C Z W w0).mono fun e W' ⟨he, bel⟩ => ?_
  subst he
  exact ⟨_, rfl, _, _, _, [], _, [], hW', trodAll_mk1 (shut_bool Try.underlying4 _), (trodAll_cons_mk (Below.trod laidOut (by kernel_rfl) (of_decide_eq_true (by kernel_rfl)) k0 bel lt0) trodAll_mk0), rfl, bel.frame _, fun h => by cases h⟩

theorem over : Rows.fnClonePayloadsFreshDisjointRow.holds Try.pinned (OpenSpec.ofChange Rows.fnClonePayloadsFreshDisjointSpec) :=
  OpenClaim.holds_of_wide 7 Try.f7 rfl rfl rfl rfl rfl rfl rfl ⟨rfl, rfl, rfl, rfl, rfl⟩ rfl rfl rfl rfl rfl (by kernel_rfl) Try.func7 (by kernel_rfl)
    (of_decide_eq_true (by kernel_rfl)) (by unfold Func.isWrapper; first | (rw [if_pos (by decide +kernel)]; kernel_rfl) | (rw [if_neg (by decide +kernel)]; exact ⟨rfl, rfl⟩))
    (fun os started H enc _ => lifted os started H enc)

/-- THE STATEMENT. -/
theorem proved : Rows.FnClonePayloadsFreshDisjointSaid := over
#print axioms proved
end Go.Proofs.Qxb6603185a.fnClonePayloadsFreshDisjoint
