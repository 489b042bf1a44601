/- The row of FnSySimplifyTwice, out of the walk. -/
import Derived.Test.YtholpemmakdglaaRows
import Derived.Test.YtholpemmakdglaaAIFnSySimplifyTwice
import Derived.Test.YtholpemmakdglaaADFnSySimplifyTwice
import Derived.WalkKit
import Derived.ProofKit
import Derived.OpenShut
import Derived.ShutString
import Derived.ChangeOld
import Derived.Below
import Derived.SizedLaws
import Derived.Carry
namespace Go.Proofs.Ytholpemmakdglaa.fnSySimplifyTwice
open Go.ChangeShapes Go.WideShapes Go.ChangeAt Go.RowKit
open Go.ChangeMaps (open_string shut_string)
set_option linter.unusedVariables false
theorem own : ownKnob Try.prog.godebug = none := by kernel_rfl
theorem laidOut : laidOutB Try.prog = true := by kernel_rfl
set_option maxRecDepth 100000 in
theorem lifted (os : Os) (started : os.Started) (H : Type) (enc : TypeId × Value → H) :
    ReturnsInHanded {} Try.checked os 8 .any (Rows.fnSySimplifyTwiceSpec.pre6 enc Try.prog Try.f8 Rows.fnSySimplifyTwiceRow.domain false) (Rows.fnSySimplifyTwiceSpec.post enc Try.prog Try.f8 false true false false) := by
  refine returnsInHanded_of_change_sized (C := Try.checked) own started (by kernel_rfl) Try.func8
    (ChangeSpec.witness6 (enc := enc) (C := Try.checked) false ⟨#[], #[.agg #[.int .i64 0, .int .i64 0, .slice none 0 0, .int .i64 0, .int .i64 0, .int .i64 0, .string ByteArray.empty, .slice none 0 0]], []⟩ 8 (by kernel_rfl) (by kernel_rfl) (by kernel_rfl) (by kernel_rfl)) ?_
  intro W base args ds gs before hval0 hW hcnd hsz0 _
  have hsz : (DataW.weightsEach Try.prog (Try.f8.params.toList ++ Rows.fnSySimplifyTwiceSpec.plain.varTypes Try.prog) (ds ++ gs)).all (· ≤ reachBytes) = true := hsz0
  have hval : ∀ (j : Nat) t v, Try.f8.params[j]? = some t → args[j]? = some v → Value.okWide Try.prog W .any base t v := hval0
  have hW' := hW
  obtain ⟨p, q, hA0, hV, rfl, hfz, hnd⟩ := hW
  have hA : DataW.TrodAll enc Try.prog W 0 (fun _ => true) true Try.f8.params.toList args.toList ds p := hA0
  rw [Try.params8] at hA hval hsz
  obtain ⟨v0, vs0, d0, ds0, p0, q0, hargs, rfl, rfl, h0, r0⟩ := trodAll_cons hA
  obtain ⟨rfl, rfl, rfl⟩ := trodAll_nil r0
  obtain rfl : args = #[v0] := by cases args; simp_all
  obtain ⟨rfl, rfl⟩ := trodVars_none hV
  have k0 := h0
  have lt0 : ∀ x ∈ p0, x.block < W.heap.size := by obtain ⟨m, hm⟩ := k0; exact DataW.trod_lt m _ _ _ hm
  have ok0 := (hval 0 35 v0 rfl rfl)
  obtain ⟨cs0, rfl, hcsz⟩ := okWide_struct Try.underlying35 ok0
  obtain ⟨fuel0, h0'⟩ := h0
  obtain ⟨t, hK, hzt0⟩ := PFnSySimplifyTwice.tree_open2 fuel0 h0'
  have hzt : PFnSySimplifyTwice.szT t := hzt0 (by
    have hz := hsz
    simp only [List.cons_append, DataW.weightsEach, List.all_append, Bool.and_eq_true] at hz
    exact hz.1)
  obtain ⟨A2, c2, A7, c7, hcs, hc2, hr2, hc7, hr7⟩ := PFnSySimplifyTwice.k35_open hK
  obtain rfl : cs0 = #[.int .i64 t.f0, .int .i64 t.f1, .slice A2 t.f2.length c2, .int .i64 t.f3, .int .i64 t.f4, .int .i64 t.f5, .string t.f6, .slice A7 t.f7.length c7] := Array.toList_inj.1 hcs
  refine (PFnSySimplifyTwice.law_c t A2 c2 A7 c7 W (PFnSySimplifyTwice.k_wf t hK) hzt hr2 hc2 hr7 hc7).mono fun e W' ⟨he, bel⟩ => ?_
  subst he
  exact ⟨_, rfl, _, _, _, [], _, [], hW', trodAll_mk1 (shut_bool Try.underlying4 _), (trodAll_cons_mk (Below.trod laidOut (by kernel_rfl) (of_decide_eq_true (by kernel_rfl)) k0 bel lt0) trodAll_mk0), rfl, bel.frame _, fun h => by cases h⟩
theorem over : Rows.fnSySimplifyTwiceRow.holds Try.pinned (OpenSpec.ofChange Rows.fnSySimplifyTwiceSpec) :=
  OpenClaim.holds_of_wide 8 Try.f8 rfl rfl rfl rfl rfl rfl rfl ⟨rfl, rfl, rfl, rfl, rfl⟩ rfl rfl rfl rfl rfl (by kernel_rfl) Try.func8 (by kernel_rfl)
    (of_decide_eq_true (by kernel_rfl)) (by unfold Func.isWrapper; first | (rw [if_pos (by decide +kernel)]; kernel_rfl) | (rw [if_neg (by decide +kernel)]; exact ⟨rfl, rfl⟩))
    (fun os started H enc _ => lifted os started H enc)
theorem proved : Rows.FnSySimplifyTwiceSaid := over
#print axioms proved
end Go.Proofs.Ytholpemmakdglaa.fnSySimplifyTwice
namespace Go.Proofs.Ytholpemmakdglaa
theorem fnSySimplifyTwice_holds : Rows.FnSySimplifyTwiceSaid := fnSySimplifyTwice.proved
end Go.Proofs.Ytholpemmakdglaa
