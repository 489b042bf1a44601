/- The row of FnSyMatchRune and its tied card, out of the walk. -/
import Derived.Test.YtholpemmakdglaaDoorRows
import Derived.Test.YtholpemmakdglaaDoorTie
import Derived.Test.YtholpemmakdglaaDoorCards
import Derived.Test.YtholpemmakdglaaDoorMRuneLaw
import Derived.Test.YtholpemmakdglaaDoorOpenInts
import Derived.Test.YtholpemmakdglaaDoorLaidFold
import Derived.WalkKit
import Derived.ProofKit
import Derived.OpenShut
import Derived.ShutString
import Derived.ChangeOld
import Derived.Below
import Derived.SizedLaws
import Derived.Carry
import Derived.Lay
import Derived.LaidOnce
import Derived.SevenTiedAt
import Derived.Lib.LaidU8
namespace Go.Proofs.YtholpemmakdglaaDoor.fnSyMatchRune
open Go.ChangeShapes Go.WideShapes Go.ChangeAt Go.RowKit Go.Lib
open Go.ChangeMaps (open_string shut_string)
set_option linter.unusedVariables false
theorem own : ownKnob Tryd.prog.godebug = none := by kernel_rfl
theorem laidOut : laidOutB Tryd.prog = true := by kernel_rfl
set_option maxRecDepth 100000 in
theorem lifted (os : Os) (started : os.Started) (H : Type) (enc : TypeId × Value → H) :
    ReturnsInHanded {} Tryd.checked os 5 .any (fun w args => (Rows.fnSyMatchRuneSpec.pre enc Tryd.prog Tryd.f5 [] false w args ∧ laidMetH Tryd.prog Rows.fnSyMatchRuneRow.laid w) ∧ sizedMet enc Tryd.prog Tryd.f5 (OpenSpec.ofChange Rows.fnSyMatchRuneSpec) false w args)
      (Rows.fnSyMatchRuneSpec.post enc Tryd.prog Tryd.f5 false true false false) := by
  refine returnsInHanded_of_change_and (C := Tryd.checked) (X := fun w _ => laidMetH Tryd.prog Rows.fnSyMatchRuneRow.laid w) (fun _ _ _ hh h => h.of_heap hh) own started (by kernel_rfl) Tryd.func5
    (ChangeSpec.witness_shaped (enc := enc) (C := Tryd.checked) (os := os) (X := fun w _ => laidMetH Tryd.prog Rows.fnSyMatchRuneRow.laid w) false (World.laidAll Tryd.prog os Rows.fnSyMatchRuneRow.laid) #[.slice none 0 0, .int .i32 0] 8 (World.laidAll_os _ _ _)
      (World.shaped_of_ZipB (by kernel_rfl) (by kernel_rfl)) (by kernel_rfl) (by kernel_rfl) (by kernel_rfl)
      (by rw [MakeChecks.laidMetH_plain _ _ _ (by kernel_rfl)]; exact laidMet_laidAll _ (by kernel_rfl) (by kernel_rfl))) ?_
  intro W base args ds gs before hval0 hW _ hsz0 hL0 _
  have hsz : (DataW.weightsEach Tryd.prog (Tryd.f5.params.toList ++ Rows.fnSyMatchRuneSpec.plain.varTypes Tryd.prog) (ds ++ gs)).all (· ≤ reachBytes) = true := hsz0
  have hval : ∀ (j : Nat) t v, Tryd.f5.params[j]? = some t → args[j]? = some v → Value.okWide Tryd.prog W .any base t v := hval0
  have hW' := hW
  obtain ⟨p, q, hA0, hV, rfl, hfz, hnd⟩ := hW
  have hA : DataW.TrodAll enc Tryd.prog W 0 (fun _ => true) true Tryd.f5.params.toList args.toList ds p := hA0
  rw [Tryd.params5] at hA hval hsz
  obtain ⟨v0, vs0, d0, ds0, p0, q0, hargs, rfl, rfl, h0, r0⟩ := trodAll_cons hA
  obtain ⟨v1, vs1, d1, ds1, p1, q1, rfl, rfl, rfl, h1, r1⟩ := trodAll_cons r0
  obtain ⟨rfl, rfl, rfl⟩ := trodAll_nil r1
  obtain rfl : args = #[v0, v1] := by cases args; simp_all
  obtain ⟨rfl, rfl⟩ := trodVars_none hV
  have k0 := h0
  have lt0 : ∀ x ∈ p0, x.block < W.heap.size := by obtain ⟨m, hm⟩ := k0; exact DataW.trod_lt m _ _ _ hm
  have ok0 := (hval 0 22 v0 rfl rfl)
  obtain ⟨a1, rfl, rfl, rfl, w1⟩ := open_int Tryd.underlying21 (hval 1 21 v1 rfl rfl) h1
  rw [MakeChecks.laidMetH_plain _ _ _ (by kernel_rfl)] at hL0
  have hL : laidMet Tryd.prog Rows.fnSyMatchRuneRow.laid W := hL0
  obtain ⟨A0, n0, cap0, rfl⟩ := okWide_slice Tryd.underlying22 ok0
  obtain ⟨zs0, rfl, hz0, wf0⟩ := Mem.ints_open Tryd.underlying22 Tryd.underlying21 (by kernel_rfl) h0
  have hF : Fold.FoldV W.heap.size W := Fold.foldV_of_reads (Lib.laidMet.reads hL (by simp [Rows.fnSyMatchRuneRow])) (Lib.laidMet.reads hL (by simp [Rows.fnSyMatchRuneRow])) (Lib.laidMet.reads hL (by simp [Rows.fnSyMatchRuneRow]))
  refine (Mem.mrl_any A0 cap0 zs0 W a1 hF hz0).mono fun e W' ⟨he, bel⟩ => ?_
  subst he
  exact ⟨_, rfl, _, _, _, [], _, [], hW', trodAll_mk1 (shut_bool Tryd.underlying4 _), (trodAll_cons_mk (Below.trod laidOut (by kernel_rfl) (of_decide_eq_true (by kernel_rfl)) k0 bel lt0) (trodAll_cons_mk (shut_int Tryd.underlying21 w1) trodAll_mk0)), rfl, bel.frame _, fun h => by cases h⟩
theorem over : Rows.fnSyMatchRuneRow.holds Tryd.pinned (OpenSpec.ofChange Rows.fnSyMatchRuneSpec) :=
  OpenClaim.holds_of_wide 5 Tryd.f5 rfl rfl rfl rfl rfl rfl rfl ⟨rfl, rfl, rfl, rfl, rfl⟩ rfl rfl rfl rfl rfl (by kernel_rfl) Tryd.func5 (by kernel_rfl)
    (of_decide_eq_true (by kernel_rfl)) (by unfold Func.isWrapper; first | (rw [if_pos (by decide +kernel)]; kernel_rfl) | (rw [if_neg (by decide +kernel)]; exact ⟨rfl, rfl⟩))
    (fun os started H enc _ => lifted os started H enc)
theorem proved : Rows.FnSyMatchRuneCardSaid :=
  Claim7.holds_tied_plain_at .later [] [.data, .data, .pinned] true (true, "d8434733d7b8f25ca0a75651924342503bb77a40fdb8f301b37e73cf87fa4c44") true over (fun _ h => by cases h) (by kernel_rfl) (fun _ h => by cases h) fnSyMatchRune_row_tie rfl ⟨rfl, rfl⟩ (by kernel_rfl) rfl
    (fun f fn hf hfn => by
      obtain rfl : f = 5 := Option.some.inj ((show Tryd.prog.funcNamed "pub-searce/laws.FnSyMatchRune" = some 5 by kernel_rfl).symm.trans hf) |>.symm
      obtain rfl : fn = Tryd.f5 := (Option.some.inj (Tryd.func5.symm.trans hfn)).symm
      exact ⟨by kernel_rfl, fun j t ht => by
        rw [Tryd.params5] at ht
        have hm : t ∈ [22, 21] := by simpa using Array.mem_of_getElem? ht
        have hall : ([22, 21].all fun u => !Tryd.prog.wantsStandIn u) = true := by kernel_rfl
        exact (show Tryd.prog.wantsStandIn t = false by simpa using List.all_eq_true.1 hall t hm)⟩)
    (by kernel_rfl)
#print axioms proved
end Go.Proofs.YtholpemmakdglaaDoor.fnSyMatchRune
namespace Go.Proofs.YtholpemmakdglaaDoor
theorem fnSyMatchRune_holds : Rows.FnSyMatchRuneCardSaid := fnSyMatchRune.proved
end Go.Proofs.YtholpemmakdglaaDoor

