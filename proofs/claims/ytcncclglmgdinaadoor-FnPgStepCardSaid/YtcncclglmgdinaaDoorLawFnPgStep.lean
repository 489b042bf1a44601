/- The row of FnPgStep and its tied card, out of the walk. -/
import Derived.Test.YtcncclglmgdinaaDoorRows
import Derived.Test.YtcncclglmgdinaaDoorTie
import Derived.Test.YtcncclglmgdinaaDoorCards
import Derived.Test.YtcncclglmgdinaaDoorPuA3FnPgStep
import Derived.WalkKit
import Derived.ProofKit
import Derived.OpenShut
import Derived.ShutString
import Derived.ChangeOld
import Derived.Below
import Derived.SizedLaws
import Derived.Carry
import Derived.Lay
import Derived.LaidOnce
import Derived.SevenTiedAt
import Derived.Lib.LaidU8
namespace Go.Proofs.YtcncclglmgdinaaDoor.fnPgStep
open Go.ChangeShapes Go.WideShapes Go.ChangeAt Go.RowKit Go.Lib
open Go.ChangeMaps (open_string shut_string)
set_option linter.unusedVariables false
theorem own : ownKnob Tryd.prog.godebug = none := by kernel_rfl
theorem laidOut : laidOutB Tryd.prog = true := by kernel_rfl
set_option maxHeartbeats 2000000 in
set_option maxRecDepth 100000 in
theorem lifted (os : Os) (started : os.Started) (H : Type) (enc : TypeId × Value → H) :
  ReturnsInHanded {} Tryd.checked os 3 .any (fun w args => (Rows.fnPgStepSpec.pre enc Tryd.prog Tryd.f3 [] false w args ∧ laidMetH Tryd.prog Rows.fnPgStepRow.laid w) ∧ sizedMet enc Tryd.prog Tryd.f3 (OpenSpec.ofChange Rows.fnPgStepSpec) false w args)
   (Rows.fnPgStepSpec.post enc Tryd.prog Tryd.f3 false true false false) := by
 refine returnsInHanded_of_change_and (C := Tryd.checked) (X := fun w _ => laidMetH Tryd.prog Rows.fnPgStepRow.laid w) (fun _ _ _ hh h => h.of_heap hh) own started (by kernel_rfl) Tryd.func3
  (ChangeSpec.witness_shaped (enc := enc) (C := Tryd.checked) (os := os) (X := fun w _ => laidMetH Tryd.prog Rows.fnPgStepRow.laid w) false (World.laidAll Tryd.prog os Rows.fnPgStepRow.laid) #[.agg #[.slice none 0 0, .int .i64 0, .int .i64 0], .slice none 0 0, .int .i32 0, .int .i32 0, .int .i32 0, .bool false] 8 (World.laidAll_os _ _ _)
   (World.shaped_of_ZipB (by kernel_rfl) (by kernel_rfl)) (by kernel_rfl) (by kernel_rfl) (by kernel_rfl)
   (by rw [MakeChecks.laidMetH_plain _ _ _ (by kernel_rfl)]; exact laidMet_laidAll _ (by kernel_rfl) (by kernel_rfl))) ?_
 intro W base args ds gs before hval0 hW _ hsz0 hL0 _
 have hsz : (DataW.weightsEach Tryd.prog (Tryd.f3.params.toList ++ Rows.fnPgStepSpec.plain.varTypes Tryd.prog) (ds ++ gs)).all (· ≤ reachBytes) = true := hsz0
 have hval : ∀ (j : Nat) t v, Tryd.f3.params[j]? = some t → args[j]? = some v → Value.okWide Tryd.prog W .any base t v := hval0
 have hW' := hW
 obtain ⟨p, q, hA0, hV, rfl, hfz, hnd⟩ := hW
 have hA : DataW.TrodAll enc Tryd.prog W 0 (fun _ => true) true Tryd.f3.params.toList args.toList ds p := hA0
 rw [Tryd.params3] at hA hval hsz
 obtain ⟨v0, vs0, d0, ds0, p0, q0, hargs, rfl, rfl, h0, r0⟩ := trodAll_cons hA
 obtain ⟨v1, vs1, d1, ds1, p1, q1, rfl, rfl, rfl, h1, r1⟩ := trodAll_cons r0
 obtain ⟨v2, vs2, d2, ds2, p2, q2, rfl, rfl, rfl, h2, r2⟩ := trodAll_cons r1
 obtain ⟨v3, vs3, d3, ds3, p3, q3, rfl, rfl, rfl, h3, r3⟩ := trodAll_cons r2
 obtain ⟨v4, vs4, d4, ds4, p4, q4, rfl, rfl, rfl, h4, r4⟩ := trodAll_cons r3
 obtain ⟨v5, vs5, d5, ds5, p5, q5, rfl, rfl, rfl, h5, r5⟩ := trodAll_cons r4
 obtain ⟨rfl, rfl, rfl⟩ := trodAll_nil r5
 obtain rfl : args = #[v0, v1, v2, v3, v4, v5] := by cases args; simp_all
 obtain ⟨rfl, rfl⟩ := trodVars_none hV
 have k0 := h0
 have lt0 : ∀ x ∈ p0, x.block < W.heap.size := by obtain ⟨m, hm⟩ := k0; exact DataW.trod_lt m _ _ _ hm
 have ok0 := (hval 0 24 v0 rfl rfl)
 have k1 := h1
 have lt1 : ∀ x ∈ p1, x.block < W.heap.size := by obtain ⟨m, hm⟩ := k1; exact DataW.trod_lt m _ _ _ hm
 have ok1 := (hval 1 25 v1 rfl rfl)
 obtain ⟨a2, rfl, rfl, rfl, w2⟩ := open_int Tryd.underlying21 (hval 2 21 v2 rfl rfl) h2
 obtain ⟨a3, rfl, rfl, rfl, w3⟩ := open_int Tryd.underlying21 (hval 3 21 v3 rfl rfl) h3
 obtain ⟨a4, rfl, rfl, rfl, w4⟩ := open_int Tryd.underlying21 (hval 4 21 v4 rfl rfl) h4
 obtain ⟨a5, rfl, rfl, rfl⟩ := open_bool Tryd.underlying4 (hval 5 4 v5 rfl rfl) h5
 rw [MakeChecks.laidMetH_plain _ _ _ (by kernel_rfl)] at hL0
 have hL : laidMet Tryd.prog Rows.fnPgStepRow.laid W := hL0
 obtain ⟨cs0, rfl, hcsz⟩ := okWide_struct Tryd.underlying24 ok0
 obtain ⟨fuel0, h0'⟩ := h0
 obtain ⟨A0, c0, L, st, nc, hcs, hc0, hr0⟩ := Ps.prog_open h0'
 obtain rfl : cs0 = #[.slice A0 L.length c0, .int .i64 st, .int .i64 nc] := Array.toList_inj.1 hcs
 obtain ⟨A9, n9, c9, rfl⟩ := okWide_slice Tryd.underlying25 ok1
 obtain ⟨fuel1, h1'⟩ := h1
 obtain ⟨A1, c1, zs, hv1, hc1, hr1⟩ := Ps.ints_kd3 Tryd.underlying25 Tryd.underlying3 (by kernel_rfl) h1'
 obtain ⟨rfl, rfl, rfl⟩ := Value.slice.inj hv1
 have hF : Fold.FoldV W.heap.size W := Fold.foldV_of_reads (Lib.laidMet.reads hL (by simp [Rows.fnPgStepRow])) (Lib.laidMet.reads hL (by simp [Rows.fnPgStepRow])) (Lib.laidMet.reads hL (by simp [Rows.fnPgStepRow]))
 have hMz := Ps.msz_of_reads (Lib.laidMet.reads hL (by simp [Rows.fnPgStepRow]))
 refine (Ps.law_c L A0 c0 st nc zs A9 c9 a2 a3 a4 a5 W hF (Nat.le_refl _) hMz (World.block_lt_of_cell? W _ (hMz 0 (by omega))) hr0 hc0 hr1 hc1).mono fun e W' ⟨he, bel⟩ => ?_
 subst he
 exact ⟨_, rfl, _, _, _, [], _, [], hW', trodAll_mk1 (shut_bool Tryd.underlying4 _), (trodAll_cons_mk (Below.trod laidOut (by kernel_rfl) (of_decide_eq_true (by kernel_rfl)) k0 bel lt0) (trodAll_cons_mk (Below.trod laidOut (by kernel_rfl) (of_decide_eq_true (by kernel_rfl)) k1 bel lt1) (trodAll_cons_mk (shut_int Tryd.underlying21 w2) (trodAll_cons_mk (shut_int Tryd.underlying21 w3) (trodAll_cons_mk (shut_int Tryd.underlying21 w4) (trodAll_cons_mk (shut_bool Tryd.underlying4 _) trodAll_mk0)))))), rfl, bel.frame _, fun h => by cases h⟩
theorem over : Rows.fnPgStepRow.holds Tryd.pinned (OpenSpec.ofChange Rows.fnPgStepSpec) :=
 OpenClaim.holds_of_wide 3 Tryd.f3 rfl rfl rfl rfl rfl rfl rfl ⟨rfl, rfl, rfl, rfl, rfl⟩ rfl rfl rfl rfl rfl (by kernel_rfl) Tryd.func3 (by kernel_rfl)
  (of_decide_eq_true (by kernel_rfl)) (by unfold Func.isWrapper; first | (rw [if_pos (by decide +kernel)]; kernel_rfl) | (rw [if_neg (by decide +kernel)]; exact ⟨rfl, rfl⟩))
  (fun os started H enc _ => lifted os started H enc)
theorem proved : Rows.FnPgStepCardSaid :=
 Claim7.holds_tied_plain_at .later [] [.data, .data, .data, .pinned] true (true, "966a5b39d9694c0afdfd441274fa6acd8d77c6197779a443dfbecfcb7ffe18b0") false over (fun _ h => by cases h) (by kernel_rfl) (fun _ h => by cases h) fnPgStep_row_tie rfl ⟨rfl, rfl⟩ (by kernel_rfl) rfl
  (fun f fn hf hfn => by
   obtain rfl : f = 3 := Option.some.inj ((show Tryd.prog.funcNamed "pub-searce/laws.FnPgStep" = some 3 by kernel_rfl).symm.trans hf) |>.symm
   obtain rfl : fn = Tryd.f3 := (Option.some.inj (Tryd.func3.symm.trans hfn)).symm
   exact ⟨by kernel_rfl, fun j t ht => by
    rw [Tryd.params3] at ht
    have hm : t ∈ [24, 25, 21, 21, 21, 4] := by simpa using Array.mem_of_getElem? ht
    have hall : ([24, 25, 21, 21, 21, 4].all fun u => !Tryd.prog.wantsStandIn u) = true := by kernel_rfl
    exact (show Tryd.prog.wantsStandIn t = false by simpa using List.all_eq_true.1 hall t hm)⟩)
  (by kernel_rfl)
#print axioms proved
end Go.Proofs.YtcncclglmgdinaaDoor.fnPgStep
namespace Go.Proofs.YtcncclglmgdinaaDoor
theorem fnPgStep_holds : Rows.FnPgStepCardSaid := fnPgStep.proved
end Go.Proofs.YtcncclglmgdinaaDoor
