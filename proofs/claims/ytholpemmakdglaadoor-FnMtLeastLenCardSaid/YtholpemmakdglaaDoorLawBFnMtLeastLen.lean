/- The row of FnMtLeastLen and its tied card, out of the walk. -/
import Derived.Test.YtholpemmakdglaaDoorRows
import Derived.Test.YtholpemmakdglaaDoorTie
import Derived.Test.YtholpemmakdglaaDoorCards
import Derived.Test.YtholpemmakdglaaDoorAHFnMtLeastLen
import Derived.Test.YtholpemmakdglaaDoorAEFnMtLeastLen
import Derived.Test.YtholpemmakdglaaDoorLaidB
import Derived.WalkKit
import Derived.ProofKit
import Derived.OpenShut
import Derived.ShutString
import Derived.ChangeOld
import Derived.Below
import Derived.SizedLaws
import Derived.Carry
import Derived.Lay
import Derived.LaidOnce
import Derived.SevenTiedAt
import Derived.Lib.LaidU8
namespace Go.Proofs.YtholpemmakdglaaDoor.fnMtLeastLen
open Go.ChangeShapes Go.WideShapes Go.ChangeAt Go.RowKit Go.Lib
open Go.ChangeMaps (open_string shut_string)
set_option linter.unusedVariables false
theorem own : ownKnob Tryd.prog.godebug = none := by kernel_rfl
theorem laidOut : laidOutB Tryd.prog = true := by kernel_rfl
set_option maxRecDepth 100000 in
theorem lifted (os : Os) (started : os.Started) (H : Type) (enc : TypeId × Value → H) :
    ReturnsInHanded {} Tryd.checked os 6 .any (fun w args => (Rows.fnMtLeastLenSpec.pre enc Tryd.prog Tryd.f6 [] false w args ∧ laidMetH Tryd.prog Rows.fnMtLeastLenRow.laid w) ∧ sizedMet enc Tryd.prog Tryd.f6 (OpenSpec.ofChange Rows.fnMtLeastLenSpec) false w args)
      (Rows.fnMtLeastLenSpec.post enc Tryd.prog Tryd.f6 false true false false) := by
  refine returnsInHanded_of_change_and (C := Tryd.checked) (X := fun w _ => laidMetH Tryd.prog Rows.fnMtLeastLenRow.laid w) (fun _ _ _ hh h => h.of_heap hh) own started (by kernel_rfl) Tryd.func6
    (ChangeSpec.witness_shaped (enc := enc) (C := Tryd.checked) (os := os) (X := fun w _ => laidMetH Tryd.prog Rows.fnMtLeastLenRow.laid w) false (World.laidAll Tryd.prog os Rows.fnMtLeastLenRow.laid) #[.agg #[.int .i64 0, .int .i64 0, .slice none 0 0, .int .i64 0, .int .i64 0, .int .i64 0, .string ByteArray.empty, .slice none 0 0]] 8 (World.laidAll_os _ _ _)
      (World.shaped_of_ZipB (by kernel_rfl) (by kernel_rfl)) (by kernel_rfl) (by kernel_rfl) (by kernel_rfl)
      (by rw [MakeChecks.laidMetH_plain _ _ _ (by kernel_rfl)]; exact laidMet_laidAll _ (by kernel_rfl) (by kernel_rfl))) ?_
  intro W base args ds gs before hval0 hW _ hsz0 hL0 _
  have hsz : (DataW.weightsEach Tryd.prog (Tryd.f6.params.toList ++ Rows.fnMtLeastLenSpec.plain.varTypes Tryd.prog) (ds ++ gs)).all (· ≤ reachBytes) = true := hsz0
  have hval : ∀ (j : Nat) t v, Tryd.f6.params[j]? = some t → args[j]? = some v → Value.okWide Tryd.prog W .any base t v := hval0
  have hW' := hW
  obtain ⟨p, q, hA0, hV, rfl, hfz, hnd⟩ := hW
  have hA : DataW.TrodAll enc Tryd.prog W 0 (fun _ => true) true Tryd.f6.params.toList args.toList ds p := hA0
  rw [Tryd.params6] at hA hval hsz
  obtain ⟨v0, vs0, d0, ds0, p0, q0, hargs, rfl, rfl, h0, r0⟩ := trodAll_cons hA
  obtain ⟨rfl, rfl, rfl⟩ := trodAll_nil r0
  obtain rfl : args = #[v0] := by cases args; simp_all
  obtain ⟨rfl, rfl⟩ := trodVars_none hV
  have k0 := h0
  have lt0 : ∀ x ∈ p0, x.block < W.heap.size := by obtain ⟨m, hm⟩ := k0; exact DataW.trod_lt m _ _ _ hm
  have ok0 := (hval 0 40 v0 rfl rfl)
  rw [MakeChecks.laidMetH_plain _ _ _ (by kernel_rfl)] at hL0
  have hL : laidMet Tryd.prog Rows.fnMtLeastLenRow.laid W := hL0
  obtain ⟨cs0, rfl, hcsz⟩ := okWide_struct Tryd.underlying40 ok0
  obtain ⟨fuel0, h0'⟩ := h0
  obtain ⟨t, hK, hzt0⟩ := PFnMtLeastLen.tree_open2 fuel0 h0'
  have hzt : PFnMtLeastLen.szT t := hzt0 (by have hz := hsz; simp only [List.cons_append, DataW.weightsEach, List.all_append, Bool.and_eq_true] at hz; exact hz.1)
  obtain ⟨A2, c2, A7, c7, hcs, hc2, hr2, hc7, hr7⟩ := PFnMtLeastLen.k40_open hK
  obtain rfl : cs0 = #[.int .i64 t.f0, .int .i64 t.f1, .slice A2 t.f2.length c2, .int .i64 t.f3, .int .i64 t.f4, .int .i64 t.f5, .string t.f6, .slice A7 t.f7.length c7] := Array.toList_inj.1 hcs
  have hF : Fold.FoldV W.heap.size W := Fold.foldV_of_reads (Lib.laidMet.reads hL (by simp [Rows.fnMtLeastLenRow])) (Lib.laidMet.reads hL (by simp [Rows.fnMtLeastLenRow])) (Lib.laidMet.reads hL (by simp [Rows.fnMtLeastLenRow]))
  refine (PFnMtLeastLen.law_c t A2 c2 A7 c7 W hF (Nat.le_refl _) (PFnMtLeastLen.k_wf t hK) hzt hr2 hc2 hr7 hc7).mono fun e W' ⟨he, bel⟩ => ?_
  subst he
  exact ⟨_, rfl, _, _, _, [], _, [], hW', trodAll_mk1 (shut_bool Tryd.underlying4 _), (trodAll_cons_mk (Below.trod laidOut (by kernel_rfl) (of_decide_eq_true (by kernel_rfl)) k0 bel lt0) trodAll_mk0), rfl, bel.frame _, fun h => by cases h⟩
theorem over : Rows.fnMtLeastLenRow.holds Tryd.pinned (OpenSpec.ofChange Rows.fnMtLeastLenSpec) :=
  OpenClaim.holds_of_wide 6 Tryd.f6 rfl rfl rfl rfl rfl rfl rfl ⟨rfl, rfl, rfl, rfl, rfl⟩ rfl rfl rfl rfl rfl (by kernel_rfl) Tryd.func6 (by kernel_rfl)
    (of_decide_eq_true (by kernel_rfl)) (by unfold Func.isWrapper; first | (rw [if_pos (by decide +kernel)]; kernel_rfl) | (rw [if_neg (by decide +kernel)]; exact ⟨rfl, rfl⟩))
    (fun os started H enc _ => lifted os started H enc)
theorem proved : Rows.FnMtLeastLenCardSaid :=
  Claim7.holds_tied_plain_at .later [] [.data, .data, .pinned] true (true, "d8434733d7b8f25ca0a75651924342503bb77a40fdb8f301b37e73cf87fa4c44") true over (fun _ h => by cases h) (by kernel_rfl) (fun _ h => by cases h) fnMtLeastLen_row_tie rfl ⟨rfl, rfl⟩ (by kernel_rfl) rfl
    (fun f fn hf hfn => by
      obtain rfl : f = 6 := Option.some.inj ((show Tryd.prog.funcNamed "pub-searce/laws.FnMtLeastLen" = some 6 by kernel_rfl).symm.trans hf) |>.symm
      obtain rfl : fn = Tryd.f6 := (Option.some.inj (Tryd.func6.symm.trans hfn)).symm
      exact ⟨by kernel_rfl, fun j t ht => by
        rw [Tryd.params6] at ht
        have hm : t ∈ [40] := by simpa using Array.mem_of_getElem? ht
        have hall : ([40].all fun u => !Tryd.prog.wantsStandIn u) = true := by kernel_rfl
        exact (show Tryd.prog.wantsStandIn t = false by simpa using List.all_eq_true.1 hall t hm)⟩)
    (by kernel_rfl)
#print axioms proved
end Go.Proofs.YtholpemmakdglaaDoor.fnMtLeastLen
namespace Go.Proofs.YtholpemmakdglaaDoor
theorem fnMtLeastLen_holds : Rows.FnMtLeastLenCardSaid := fnMtLeastLen.proved
end Go.Proofs.YtholpemmakdglaaDoor
