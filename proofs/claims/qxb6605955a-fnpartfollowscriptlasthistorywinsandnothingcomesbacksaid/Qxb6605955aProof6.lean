import Derived.Test.Qxb6605955aRows
import Derived.Test.Qxb6605955aOpen
import Derived.Test.Qxb6605955aLaw6
import Derived.WalkKit
import Derived.ProofKit
import Derived.OpenShut
import Derived.ShutString
import Derived.ChangeOld
import Derived.Below
import Derived.ChangeMaps5
import Derived.Test.Qxb6605955aStrs
namespace Go.Proofs.Qxb6605955a
open Go.ChangeShapes Go.WideShapes Go.ChangeAt Go.RowKit
open Go.ChangeMaps (open_string shut_string)

theorem own6 : ownKnob Try.prog.godebug = none := by kernel_rfl
theorem laidOut6 : laidOutB Try.prog = true := by kernel_rfl

set_option maxRecDepth 100000 in
theorem lifted6 (os : Os) (started : os.Started) (H : Type) (enc : TypeId × Value → H) :
    ReturnsInHanded {} Try.checked os 6 .any (Rows.fnPartFollowScriptLastHistoryWinsAndNothingComesBackSpec.pre6 enc Try.prog Try.f6 Rows.fnPartFollowScriptLastHistoryWinsAndNothingComesBackRow.domain false) (Rows.fnPartFollowScriptLastHistoryWinsAndNothingComesBackSpec.post enc Try.prog Try.f6 false true false false) := by
  refine returnsInHanded_of_change (C := Try.checked) own6 started (by kernel_rfl) Try.func6
    (ChangeSpec.witness6 (enc := enc) (C := Try.checked) false ⟨#[], #[.string { data := #[] }, .slice none 0 0, .slice none 0 0, .string { data := #[] }, .int .i64 0, .slice none 0 0], []⟩ 8 (by kernel_rfl) (by kernel_rfl) (by kernel_rfl) (by kernel_rfl)) ?_
  intro W base args ds gs before hval0 hW hcnd _
  have hval : ∀ (j : Nat) t v, Try.f6.params[j]? = some t → args[j]? = some v → Value.okWide Try.prog W .any base t v := hval0
  have hW' := hW
  obtain ⟨p, q, hA0, hV, rfl, hfz, hnd⟩ := hW
  have hA : DataW.TrodAll enc Try.prog W 0 (fun _ => true) true Try.f6.params.toList args.toList ds p := hA0
  rw [Try.params6] at hA hval
  obtain ⟨v0, vs0, d0, ds0, p0, q0, hargs, rfl, rfl, h0, r0⟩ := trodAll_cons hA
  obtain ⟨v1, vs1, d1, ds1, p1, q1, rfl, rfl, rfl, h1, r1⟩ := trodAll_cons r0
  obtain ⟨v2, vs2, d2, ds2, p2, q2, rfl, rfl, rfl, h2, r2⟩ := trodAll_cons r1
  obtain ⟨v3, vs3, d3, ds3, p3, q3, rfl, rfl, rfl, h3, r3⟩ := trodAll_cons r2
  obtain ⟨v4, vs4, d4, ds4, p4, q4, rfl, rfl, rfl, h4, r4⟩ := trodAll_cons r3
  obtain ⟨v5, vs5, d5, ds5, p5, q5, rfl, rfl, rfl, h5, r5⟩ := trodAll_cons r4
  obtain ⟨rfl, rfl, rfl⟩ := trodAll_nil r5
  obtain rfl : args = #[v0, v1, v2, v3, v4, v5] := by cases args; simp_all
  obtain ⟨rfl, rfl⟩ := trodVars_none hV
  obtain ⟨s0, rfl, rfl, rfl, w0⟩ := open_string Try.underlying9 (hval 0 9 v0 rfl rfl) h0
  obtain ⟨s3, rfl, rfl, rfl, w3⟩ := open_string Try.underlying9 (hval 3 9 v3 rfl rfl) h3
  obtain ⟨z4, rfl, rfl, rfl, w4⟩ := open_int Try.underlying2 (hval 4 2 v4 rfl rfl) h4
  have k1 := h1
  have lt1 : ∀ x ∈ p1, x.block < W.heap.size := by obtain ⟨m, hm⟩ := k1; exact DataW.trod_lt m _ _ _ hm
  have k2 := h2
  have lt2 : ∀ x ∈ p2, x.block < W.heap.size := by obtain ⟨m, hm⟩ := k2; exact DataW.trod_lt m _ _ _ hm
  obtain ⟨a1, len1, cap1, rfl⟩ := okWide_slice Try.underlying34 (hval 1 34 v1 rfl rfl)
  obtain ⟨a2, len2, cap2, rfl⟩ := okWide_slice Try.underlying34 (hval 2 34 v2 rfl rfl)
  obtain ⟨R1, hi1, hr1⟩ : ∃ R, InR R len1 ∧ Rds W a1 len1 R := by
    obtain ⟨fuel, hf⟩ := h1
    obtain ⟨a, n, c, S, e, h1, h2⟩ := open_rds (by simpa [Value.cells] using hf)
    simp at e
    obtain ⟨rfl, rfl, rfl⟩ := e
    exact ⟨S, h1, h2⟩
  obtain ⟨R2, hi2, hr2⟩ : ∃ R, InR R len2 ∧ Rds W a2 len2 R := by
    obtain ⟨fuel, hf⟩ := h2
    obtain ⟨a, n, c, S, e, h1, h2⟩ := open_rds (by simpa [Value.cells] using hf)
    simp at e
    obtain ⟨rfl, rfl, rfl⟩ := e
    exact ⟨S, h1, h2⟩
  have k5 := h5
  have lt5 : ∀ x ∈ p5, x.block < W.heap.size := by obtain ⟨m, hm⟩ := k5; exact DataW.trod_lt m _ _ _ hm
  obtain ⟨a5, len5, cap5, rfl⟩ := okWide_slice Try.underlying50 (hval 5 50 v5 rfl rfl)
  obtain ⟨S5, hs5⟩ : ∃ S, Strs W a5 len5 S := by
    obtain ⟨fuel, hf⟩ := h5
    exact open_strs5 (by simpa [Value.cells] using hf)
  clear hA0 hval0
  refine (law6 s0 s3 a1 a2 a5 len1 len2 len5 cap1 cap2 cap5 R1 R2 S5 z4 W hi1 hi2 hr1 hr2 hs5 (wf64 w4)).mono fun e W' ⟨he, bel⟩ => ?_
  subst he
  exact ⟨_, rfl, _, _, _, [], _, [], hW', trodAll_mk1 (shut_bool Try.underlying4 _), (trodAll_cons_mk (shut_string Try.underlying9 w0) (trodAll_cons_mk (Below.trod laidOut6 (by kernel_rfl) (of_decide_eq_true (by kernel_rfl)) k1 bel lt1) (trodAll_cons_mk (Below.trod laidOut6 (by kernel_rfl) (of_decide_eq_true (by kernel_rfl)) k2 bel lt2) (trodAll_cons_mk (shut_string Try.underlying9 w3) (trodAll_cons_mk (shut_int Try.underlying2 w4) (trodAll_cons_mk (Below.trod laidOut6 (by kernel_rfl) (of_decide_eq_true (by kernel_rfl)) k5 bel lt5) trodAll_mk0)))))), rfl, bel.frame _, fun h => by cases h⟩

theorem over6 : Rows.fnPartFollowScriptLastHistoryWinsAndNothingComesBackRow.holds Try.pinned (OpenSpec.ofChange Rows.fnPartFollowScriptLastHistoryWinsAndNothingComesBackSpec) :=
  OpenClaim.holds_of_wide 6 Try.f6 rfl rfl rfl rfl rfl rfl rfl ⟨rfl, rfl, rfl, rfl, rfl⟩ rfl rfl rfl rfl rfl (by kernel_rfl) Try.func6 (by kernel_rfl)
    (of_decide_eq_true (by kernel_rfl)) (by unfold Func.isWrapper; first | (rw [if_pos (by decide +kernel)]; kernel_rfl) | (rw [if_neg (by decide +kernel)]; exact ⟨rfl, rfl⟩))
    (fun os started H enc _ => lifted6 os started H enc)

/-- THE STATEMENT. -/
theorem proved6 : Rows.FnPartFollowScriptLastHistoryWinsAndNothingComesBackSaid := over6
end Go.Proofs.Qxb6605955a
