/- The proof of Rows.FnMatchHeaderSpecSaid: the frame (proof-skeleton.mjs's, turned to strings and bools) round the walk of Qxb6602934aModsMhWalk. -/
import Derived.Test.Qxb6602934aModsRows
import Derived.Test.Qxb6602934aModsOpen
import Derived.Test.Qxb6602934aModsMhWalk
import Derived.WalkKit
import Derived.ProofKit
import Derived.OpenShut
import Derived.ShutString
import Derived.ChangeOld
import Derived.Below
namespace Go.Proofs.Qxb6602934aMods.fnMatchHeaderSpec
open Go.ChangeShapes Go.WideShapes Go.ChangeAt Go.RowKit
open Go.ChangeMaps (open_string shut_string)
set_option linter.unusedVariables false

theorem own : ownKnob Trym.prog.godebug = none := by kernel_rfl
theorem laidOut : laidOutB Trym.prog = true := by kernel_rfl

/-! ### THE ROW's STEP: WRITTEN OUT: LEAVE IT -/
set_option maxRecDepth 100000 in
theorem lifted (os : Os) (started : os.Started) (H : Type) (enc : TypeId × Value → H) :
    ReturnsInHanded {} Trym.checked os 7 .any (Rows.fnMatchHeaderSpecSpec.pre6 enc Trym.prog Trym.f7 Rows.fnMatchHeaderSpecRow.domain false) (Rows.fnMatchHeaderSpecSpec.post enc Trym.prog Trym.f7 false true false false) := by
  refine returnsInHanded_of_change (C := Trym.checked) own started (by kernel_rfl) Trym.func7
    (ChangeSpec.witness6 (enc := enc) (C := Trym.checked) false ⟨#[], #[.slice none 0 0, .slice none 0 0, .slice none 0 0], []⟩ 8 (by kernel_rfl) (by kernel_rfl) (by kernel_rfl) (by kernel_rfl)) ?_
  intro W base args ds gs before hval0 hW hcnd _
  have hval : ∀ (j : Nat) t v, Trym.f7.params[j]? = some t → args[j]? = some v → Value.okWide Trym.prog W .any base t v := hval0
  have hW' := hW
  obtain ⟨p, q, hA0, hV, rfl, hfz, hnd⟩ := hW
  have hA : DataW.TrodAll enc Trym.prog W 0 (fun _ => true) true Trym.f7.params.toList args.toList ds p := hA0
  rw [Trym.params7] at hA hval
  obtain ⟨v0, vs0, d0, ds0, p0, q0, hargs, rfl, rfl, h0, r0⟩ := trodAll_cons hA
  obtain ⟨v1, vs1, d1, ds1, p1, q1, rfl, rfl, rfl, h1, r1⟩ := trodAll_cons r0
  obtain ⟨v2, vs2, d2, ds2, p2, q2, rfl, rfl, rfl, h2, r2⟩ := trodAll_cons r1
  obtain ⟨rfl, rfl, rfl⟩ := trodAll_nil r2
  obtain rfl : args = #[v0, v1, v2] := by cases args; simp_all
  obtain ⟨rfl, rfl⟩ := trodVars_none hV
  obtain ⟨a0, len0, cap0, rfl⟩ := okWide_slice Trym.underlying27 (hval 0 27 v0 rfl rfl)
  have k0 := h0
  have lt0 : ∀ x ∈ p0, x.block < W.heap.size := by obtain ⟨m, hm⟩ := k0; exact DataW.trod_lt m _ _ _ hm
  obtain ⟨f, m0, e0, w0⟩ : ∃ f : Nat → ByteArray, len0 ≤ maxLen ∧ (a0 = none → len0 = 0) ∧ Row W a0 len0 fun i => .string (f i) := by
    obtain ⟨fuel, hf⟩ := h0
    exact open_strs hf
  obtain ⟨a1, len1, cap1, rfl⟩ := okWide_slice Trym.underlying28 (hval 1 28 v1 rfl rfl)
  have k1 := h1
  have lt1 : ∀ x ∈ p1, x.block < W.heap.size := by obtain ⟨m, hm⟩ := k1; exact DataW.trod_lt m _ _ _ hm
  obtain ⟨g, m1, e1, w1⟩ : ∃ f : Nat → Bool, len1 ≤ maxLen ∧ (a1 = none → len1 = 0) ∧ Row W a1 len1 fun i => .bool (f i) := by
    obtain ⟨fuel, hf⟩ := h1
    exact open_bls hf
  obtain ⟨a2, len2, cap2, rfl⟩ := okWide_slice Trym.underlying27 (hval 2 27 v2 rfl rfl)
  have k2 := h2
  have lt2 : ∀ x ∈ p2, x.block < W.heap.size := by obtain ⟨m, hm⟩ := k2; exact DataW.trod_lt m _ _ _ hm
  obtain ⟨got, m2, e2, w2⟩ : ∃ f : Nat → ByteArray, len2 ≤ maxLen ∧ (a2 = none → len2 = 0) ∧ Row W a2 len2 fun i => .string (f i) := by
    obtain ⟨fuel, hf⟩ := h2
    exact open_strs hf
  clear hA0 hval0
  refine (walk a0 len0 cap0 f a1 len1 cap1 g a2 len2 cap2 got W m0 m1 m2 e0 e1 e2 w0 w1 w2).mono fun e W' ⟨he, bel⟩ => ?_
  subst he
  exact ⟨_, rfl, _, _, _, [], _, [], hW', trodAll_mk1 (shut_bool Trym.underlying4 _), (trodAll_cons_mk (Below.trod laidOut (by kernel_rfl) (of_decide_eq_true (by kernel_rfl)) k0 bel lt0) (trodAll_cons_mk (Below.trod laidOut (by kernel_rfl) (of_decide_eq_true (by kernel_rfl)) k1 bel lt1) (trodAll_cons_mk (Below.trod laidOut (by kernel_rfl) (of_decide_eq_true (by kernel_rfl)) k2 bel lt2) trodAll_mk0))), rfl, bel.frame _, fun h => by cases h⟩

theorem over : Rows.fnMatchHeaderSpecRow.holds Trym.pinned (OpenSpec.ofChange Rows.fnMatchHeaderSpecSpec) :=
  OpenClaim.holds_of_wide 7 Trym.f7 rfl rfl rfl rfl rfl rfl rfl ⟨rfl, rfl, rfl, rfl, rfl⟩ rfl rfl rfl rfl rfl (by kernel_rfl) Trym.func7 (by kernel_rfl)
    (of_decide_eq_true (by kernel_rfl)) (by unfold Func.isWrapper; first | (rw [if_pos (by decide +kernel)]; kernel_rfl) | (rw [if_neg (by decide +kernel)]; exact ⟨rfl, rfl⟩))
    (fun os started H enc _ => lifted os started H enc)

/-- ████ THE STATEMENT ████ -/
theorem proved : Rows.FnMatchHeaderSpecSaid := over
end Go.Proofs.Qxb6602934aMods.fnMatchHeaderSpec
namespace Go.Proofs.Qxb6602934aMods
theorem fnMatchHeaderSpec_proved : Rows.FnMatchHeaderSpecSaid := fnMatchHeaderSpec.proved
end Go.Proofs.Qxb6602934aMods
