/- The row of FnSyPrefix and its tied card, out of the walk. -/
import Derived.Test.YtmgdlodnhmpbiaaDoorRows
import Derived.Test.YtmgdlodnhmpbiaaDoorTie
import Derived.Test.YtmgdlodnhmpbiaaDoorCards
import Derived.Test.YtmgdlodnhmpbiaaDoorPsA5FnSyPrefix
import Derived.Test.YtmgdlodnhmpbiaaDoorLaidFold
import Derived.WalkKit
import Derived.ProofKit
import Derived.OpenShut
import Derived.ShutString
import Derived.ChangeOld
import Derived.Below
import Derived.SizedLaws
import Derived.Carry
import Derived.Lay
import Derived.LaidOnce
import Derived.SevenTiedAt
import Derived.Lib.LaidU8
namespace Go.Proofs.YtmgdlodnhmpbiaaDoor.fnSyPrefix
open Go.ChangeShapes Go.WideShapes Go.ChangeAt Go.RowKit Go.Lib
open Go.ChangeMaps (open_string shut_string)
set_option linter.unusedVariables false
theorem own : ownKnob Tryd.prog.godebug = none := by kernel_rfl
theorem laidOut : laidOutB Tryd.prog = true := by kernel_rfl
set_option maxRecDepth 100000 in
theorem lifted (os : Os) (started : os.Started) (H : Type) (enc : TypeId × Value → H) :
    ReturnsInHanded {} Tryd.checked os 4 .any (fun w args => (Rows.fnSyPrefixSpec.pre enc Tryd.prog Tryd.f4 [] false w args ∧ laidMetH Tryd.prog Rows.fnSyPrefixRow.laid w) ∧ sizedMet enc Tryd.prog Tryd.f4 (OpenSpec.ofChange Rows.fnSyPrefixSpec) false w args)
      (Rows.fnSyPrefixSpec.post enc Tryd.prog Tryd.f4 false true false false) := by
  refine returnsInHanded_of_change_and (C := Tryd.checked) (X := fun w _ => laidMetH Tryd.prog Rows.fnSyPrefixRow.laid w) (fun _ _ _ hh h => h.of_heap hh) own started (by kernel_rfl) Tryd.func4
    (ChangeSpec.witness_shaped (enc := enc) (C := Tryd.checked) (os := os) (X := fun w _ => laidMetH Tryd.prog Rows.fnSyPrefixRow.laid w) false (World.laidAll Tryd.prog os Rows.fnSyPrefixRow.laid) #[.agg #[.slice none 0 0, .int .i64 0, .int .i64 0], .string ByteArray.empty] 8 (World.laidAll_os _ _ _)
      (World.shaped_of_ZipB (by kernel_rfl) (by kernel_rfl)) (by kernel_rfl) (by kernel_rfl) (by kernel_rfl)
      (by rw [MakeChecks.laidMetH_plain _ _ _ (by kernel_rfl)]; exact laidMet_laidAll _ (by kernel_rfl) (by kernel_rfl))) ?_
  intro W base args ds gs before hval0 hW _ hsz0 hL0 _
  have hsz : (DataW.weightsEach Tryd.prog (Tryd.f4.params.toList ++ Rows.fnSyPrefixSpec.plain.varTypes Tryd.prog) (ds ++ gs)).all (· ≤ reachBytes) = true := hsz0
  have hval : ∀ (j : Nat) t v, Tryd.f4.params[j]? = some t → args[j]? = some v → Value.okWide Tryd.prog W .any base t v := hval0
  have hW' := hW
  obtain ⟨p, q, hA0, hV, rfl, hfz, hnd⟩ := hW
  have hA : DataW.TrodAll enc Tryd.prog W 0 (fun _ => true) true Tryd.f4.params.toList args.toList ds p := hA0
  rw [Tryd.params4] at hA hval hsz
  obtain ⟨v0, vs0, d0, ds0, p0, q0, hargs, rfl, rfl, h0, r0⟩ := trodAll_cons hA
  obtain ⟨v1, vs1, d1, ds1, p1, q1, rfl, rfl, rfl, h1, r1⟩ := trodAll_cons r0
  obtain ⟨rfl, rfl, rfl⟩ := trodAll_nil r1
  obtain rfl : args = #[v0, v1] := by cases args; simp_all
  obtain ⟨rfl, rfl⟩ := trodVars_none hV
  have k0 := h0
  have lt0 : ∀ x ∈ p0, x.block < W.heap.size := by obtain ⟨m, hm⟩ := k0; exact DataW.trod_lt m _ _ _ hm
  have ok0 := (hval 0 36 v0 rfl rfl)
  obtain ⟨a1, rfl, rfl, rfl, y1⟩ := open_string Tryd.underlying9 (hval 1 9 v1 rfl rfl) h1
  have w1 : a1.size ≤ 140737488351232 := by
    have z := sized_string hsz (j := 1) (t := 9) rfl rfl
    rw [Array.length_toList] at z
    exact z
  rw [MakeChecks.laidMetH_plain _ _ _ (by kernel_rfl)] at hL0
  have hL : laidMet Tryd.prog Rows.fnSyPrefixRow.laid W := hL0
  obtain ⟨cs0, rfl, hcsz⟩ := okWide_struct Tryd.underlying36 ok0
  obtain ⟨fuel0, h0'⟩ := h0
  obtain ⟨A0, c0, L, st, nc, hcs, hc0, hr0⟩ := Ps.prog_open h0'
  obtain rfl : cs0 = #[.slice A0 L.length c0, .int .i64 st, .int .i64 nc] := Array.toList_inj.1 hcs
  have hF : Fold.FoldV W.heap.size W := Fold.foldV_of_reads (Lib.laidMet.reads hL (by simp [Rows.fnSyPrefixRow])) (Lib.laidMet.reads hL (by simp [Rows.fnSyPrefixRow])) (Lib.laidMet.reads hL (by simp [Rows.fnSyPrefixRow]))
  have hU := Ps.utf_of_reads (Lib.laidMet.reads hL (by simp [Rows.fnSyPrefixRow])) (Lib.laidMet.reads hL (by simp [Rows.fnSyPrefixRow]))
  refine (Ps.law_c L A0 c0 st nc a1 W hF (Nat.le_refl _) hU hr0 hc0).mono fun e W' ⟨he, bel⟩ => ?_
  subst he
  exact ⟨_, rfl, _, _, _, [], _, [], hW', trodAll_mk1 (shut_bool Tryd.underlying4 _), (trodAll_cons_mk (Below.trod laidOut (by kernel_rfl) (of_decide_eq_true (by kernel_rfl)) k0 bel lt0) (trodAll_cons_mk (shut_string Tryd.underlying9 y1) trodAll_mk0)), rfl, bel.frame _, fun h => by cases h⟩
theorem over : Rows.fnSyPrefixRow.holds Tryd.pinned (OpenSpec.ofChange Rows.fnSyPrefixSpec) :=
  OpenClaim.holds_of_wide 4 Tryd.f4 rfl rfl rfl rfl rfl rfl rfl ⟨rfl, rfl, rfl, rfl, rfl⟩ rfl rfl rfl rfl rfl (by kernel_rfl) Tryd.func4 (by kernel_rfl)
    (of_decide_eq_true (by kernel_rfl)) (by unfold Func.isWrapper; first | (rw [if_pos (by decide +kernel)]; kernel_rfl) | (rw [if_neg (by decide +kernel)]; exact ⟨rfl, rfl⟩))
    (fun os started H enc _ => lifted os started H enc)
theorem proved : Rows.FnSyPrefixCardSaid :=
  Claim7.holds_tied_plain_at .later [] [.data, .data, .data, .pinned, .pinned] true (true, "109a33adffe09ce1ebc682d904a9d67115a4ec0af6d6dd1b7248f5ca1e6cadde") false over (fun _ h => by cases h) (by kernel_rfl) (fun _ h => by cases h) fnSyPrefix_row_tie rfl ⟨rfl, rfl⟩ (by kernel_rfl) rfl
    (fun f fn hf hfn => by
      obtain rfl : f = 4 := Option.some.inj ((show Tryd.prog.funcNamed "pub-searce/laws.FnSyPrefix" = some 4 by kernel_rfl).symm.trans hf) |>.symm
      obtain rfl : fn = Tryd.f4 := (Option.some.inj (Tryd.func4.symm.trans hfn)).symm
      exact ⟨by kernel_rfl, fun j t ht => by
        rw [Tryd.params4] at ht
        have hm : t ∈ [36, 9] := by simpa using Array.mem_of_getElem? ht
        have hall : ([36, 9].all fun u => !Tryd.prog.wantsStandIn u) = true := by kernel_rfl
        exact (show Tryd.prog.wantsStandIn t = false by simpa using List.all_eq_true.1 hall t hm)⟩)
    (by kernel_rfl)
#print axioms proved
end Go.Proofs.YtmgdlodnhmpbiaaDoor.fnSyPrefix
namespace Go.Proofs.YtmgdlodnhmpbiaaDoor
theorem fnSyPrefix_holds : Rows.FnSyPrefixCardSaid := fnSyPrefix.proved
end Go.Proofs.YtmgdlodnhmpbiaaDoor

