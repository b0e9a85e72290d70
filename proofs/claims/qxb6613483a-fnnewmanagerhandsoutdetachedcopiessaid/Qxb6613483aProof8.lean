import Derived.Test.Qxb6613483aRows
import Derived.Test.Qxb6613483aOpen
import Derived.Test.Qxb6613483aLaw8
import Derived.WalkKit
import Derived.ProofKit
import Derived.OpenShut
import Derived.ShutString
import Derived.ChangeOld
import Derived.Below
import Derived.ChangeMaps5
namespace Go.Proofs.Qxb6613483a
open Go.ChangeShapes Go.WideShapes Go.ChangeAt Go.RowKit
open Go.ChangeMaps (open_string shut_string)

theorem own8 : ownKnob Try.prog.godebug = none := by kernel_rfl
theorem laidOut8 : laidOutB Try.prog = true := by kernel_rfl

set_option maxRecDepth 100000 in
theorem lifted8 (os : Os) (started : os.Started) (H : Type) (enc : TypeId × Value → H) :
    ReturnsInHanded {} Try.checked os 8 .any (Rows.fnNewManagerHandsOutDetachedCopiesSpec.pre6 enc Try.prog Try.f8 Rows.fnNewManagerHandsOutDetachedCopiesRow.domain false) (Rows.fnNewManagerHandsOutDetachedCopiesSpec.post enc Try.prog Try.f8 false true false false) := by
  refine returnsInHanded_of_change (C := Try.checked) own8 started (by kernel_rfl) Try.func8
    (ChangeSpec.witness6 (enc := enc) (C := Try.checked) false ⟨#[], #[.slice none 0 0, .slice none 0 0, .slice none 0 0, .string { data := #[] }], []⟩ 8 (by kernel_rfl) (by kernel_rfl) (by kernel_rfl) (by kernel_rfl)) ?_
  intro W base args ds gs before hval0 hW hcnd _
  have hval : ∀ (j : Nat) t v, Try.f8.params[j]? = some t → args[j]? = some v → Value.okWide Try.prog W .any base t v := hval0
  have hW' := hW
  obtain ⟨p, q, hA0, hV, rfl, hfz, hnd⟩ := hW
  have hA : DataW.TrodAll enc Try.prog W 0 (fun _ => true) true Try.f8.params.toList args.toList ds p := hA0
  rw [Try.params8] at hA hval
  obtain ⟨v0, vs0, d0, ds0, p0, q0, hargs, rfl, rfl, h0, r0⟩ := trodAll_cons hA
  obtain ⟨v1, vs1, d1, ds1, p1, q1, rfl, rfl, rfl, h1, r1⟩ := trodAll_cons r0
  obtain ⟨v2, vs2, d2, ds2, p2, q2, rfl, rfl, rfl, h2, r2⟩ := trodAll_cons r1
  obtain ⟨v3, vs3, d3, ds3, p3, q3, rfl, rfl, rfl, h3, r3⟩ := trodAll_cons r2
  obtain ⟨rfl, rfl, rfl⟩ := trodAll_nil r3
  obtain rfl : args = #[v0, v1, v2, v3] := by cases args; simp_all
  obtain ⟨rfl, rfl⟩ := trodVars_none hV
  obtain ⟨s3, rfl, rfl, rfl, w3⟩ := open_string Try.underlying9 (hval 3 9 v3 rfl rfl) h3
  have k0 := h0
  have lt0 : ∀ x ∈ p0, x.block < W.heap.size := by obtain ⟨m, hm⟩ := k0; exact DataW.trod_lt m _ _ _ hm
  have k1 := h1
  have lt1 : ∀ x ∈ p1, x.block < W.heap.size := by obtain ⟨m, hm⟩ := k1; exact DataW.trod_lt m _ _ _ hm
  have k2 := h2
  have lt2 : ∀ x ∈ p2, x.block < W.heap.size := by obtain ⟨m, hm⟩ := k2; exact DataW.trod_lt m _ _ _ hm
  obtain ⟨a0, len0, cap0, rfl⟩ := okWide_slice Try.underlying22 (hval 0 22 v0 rfl rfl)
  obtain ⟨a1, len1, cap1, rfl⟩ := okWide_slice Try.underlying23 (hval 1 23 v1 rfl rfl)
  obtain ⟨a2, len2, cap2, rfl⟩ := okWide_slice Try.underlying22 (hval 2 22 v2 rfl rfl)
  obtain ⟨S, hS, hSs, hSc⟩ : ∃ S, Strs W a0 len0 S ∧ (∀ i, i < len0 → (S i).size ≤ maxLen) ∧ len0 ≤ cap0 := by
    obtain ⟨fuel, hf⟩ := h0
    exact open_strs22 (by simpa [Value.cells] using hf)
  obtain ⟨Z, hZ⟩ : ∃ Z, Ints W a1 len1 Z := by
    obtain ⟨fuel, hf⟩ := h1
    exact open_ints23 (by simpa [Value.cells] using hf)
  obtain ⟨N, hN, hNs, _⟩ : ∃ S, Strs W a2 len2 S ∧ (∀ i, i < len2 → (S i).size ≤ maxLen) ∧ len2 ≤ cap2 := by
    obtain ⟨fuel, hf⟩ := h2
    exact open_strs22 (by simpa [Value.cells] using hf)
  clear hA0 hval0
  refine (law8 a0 len0 cap0 a1 len1 cap1 a2 len2 cap2 s3 S N Z W hS hZ hN hSs hNs w3 hSc).mono fun e W' ⟨he, bel⟩ => ?_
  subst he
  exact ⟨_, rfl, _, _, _, [], _, [], hW', trodAll_mk1 (shut_bool Try.underlying4 _), (trodAll_cons_mk (Below.trod laidOut8 (by kernel_rfl) (of_decide_eq_true (by kernel_rfl)) k0 bel lt0) (trodAll_cons_mk (Below.trod laidOut8 (by kernel_rfl) (of_decide_eq_true (by kernel_rfl)) k1 bel lt1) (trodAll_cons_mk (Below.trod laidOut8 (by kernel_rfl) (of_decide_eq_true (by kernel_rfl)) k2 bel lt2) (trodAll_cons_mk (shut_string Try.underlying9 w3) trodAll_mk0)))), rfl, bel.frame _, fun h => by cases h⟩

theorem over8 : Rows.fnNewManagerHandsOutDetachedCopiesRow.holds Try.pinned (OpenSpec.ofChange Rows.fnNewManagerHandsOutDetachedCopiesSpec) :=
  OpenClaim.holds_of_wide 8 Try.f8 rfl rfl rfl rfl rfl rfl rfl ⟨rfl, rfl, rfl, rfl, rfl⟩ rfl rfl rfl rfl rfl (by kernel_rfl) Try.func8 (by kernel_rfl)
    (of_decide_eq_true (by kernel_rfl)) (by unfold Func.isWrapper; first | (rw [if_pos (by decide +kernel)]; kernel_rfl) | (rw [if_neg (by decide +kernel)]; exact ⟨rfl, rfl⟩))
    (fun os started H enc _ => lifted8 os started H enc)

/-- THE STATEMENT. -/
theorem proved8 : Rows.FnNewManagerHandsOutDetachedCopiesSaid := over8
end Go.Proofs.Qxb6613483a
