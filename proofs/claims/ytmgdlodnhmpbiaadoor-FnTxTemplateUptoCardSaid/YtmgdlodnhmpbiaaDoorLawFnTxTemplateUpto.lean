/- The second form's row of FnTxTemplate and its tied card, out of the walk. -/
import Derived.Test.YtmgdlodnhmpbiaaDoorRows
import Derived.Test.YtmgdlodnhmpbiaaDoorTie
import Derived.Test.YtmgdlodnhmpbiaaDoorCards
import Derived.Test.YtmgdlodnhmpbiaaDoorTpLFnTxTemplate
import Derived.Test.YtmgdlodnhmpbiaaDoorTpOFnTxTemplate
import Derived.Test.YtmgdlodnhmpbiaaDoorLaidU
import Derived.WalkKit
import Derived.ProofKit
import Derived.OpenShut
import Derived.ShutString
import Derived.ChangeOld
import Derived.Below
import Derived.SizedLaws
import Derived.Carry
import Derived.Lay
import Derived.LaidOnce
import Derived.SevenTiedAt
import Derived.Lib.LaidU8
import Derived.Deep.DeepHandedRow
namespace Go.Proofs.YtmgdlodnhmpbiaaDoor.fnTxTemplate
open Go.ChangeShapes Go.WideShapes Go.ChangeAt Go.RowKit Go.Lib
open Go.ChangeMaps (open_string shut_string)
set_option linter.unusedVariables false
theorem own : ownKnob Tryd.prog.godebug = none := by kernel_rfl
theorem laidOut : laidOutB Tryd.prog = true := by kernel_rfl
theorem laid_met (os : Os) : laidMetH Tryd.prog Rows.fnTxTemplateUptoRow.laid ((World.laidAll Tryd.prog os Rows.fnTxTemplateUptoRow.laid).forCall (fun _ _ => 0) ⟨#[], #[.slice none 0 0, .slice none 0 0, .string ByteArray.empty, .slice none 0 0], []⟩).memory := by
  rw [MakeChecks.laidMetH_plain _ _ _ (by kernel_rfl)]
  exact laidMet_laidAll _ (by kernel_rfl) (by kernel_rfl)
theorem reads (os : Os) {H : Type} (enc : TypeId × Value → H) : ∃ places, DataW.whole enc Tryd.prog ((World.laidAll Tryd.prog os Rows.fnTxTemplateUptoRow.laid).forCall (fun _ _ => 0) ⟨#[], #[.slice none 0 0, .slice none 0 0, .string ByteArray.empty, .slice none 0 0], []⟩).memory Tryd.f3.params.toList (Rows.OpenSpec.upto Rows.fnTxTemplateSpec).vars false (#[.slice none 0 0, .slice none 0 0, .string ByteArray.empty, .slice none 0 0] : Array Value).toList 8 = some ([.nil, .nil, .lit (.string []), .nil], [], places) :=
  ⟨[], by kernel_rfl⟩
set_option maxRecDepth 100000 in
theorem lifted (os : Os) (started : os.Started) (H : Type) (enc : TypeId × Value → H) (F : Stop.Interp) :
    ReturnsInHanded {} Tryd.checked os 3 .any ((Rows.OpenSpec.upto Rows.fnTxTemplateSpec).preRow enc Tryd.prog Tryd.f3 Rows.fnTxTemplateUptoRow.domain false Rows.fnTxTemplateUptoRow.laid) (((Rows.OpenSpec.upto Rows.fnTxTemplateSpec).at F).post enc Tryd.prog Tryd.f3 false true false false) := by
  obtain ⟨places, hx⟩ := reads os enc
  have hok : Input.okWideB Tryd.checked.prog ((World.laidAll Tryd.prog os Rows.fnTxTemplateUptoRow.laid).forCall (fun _ _ => 0) ⟨#[], #[.slice none 0 0, .slice none 0 0, .string ByteArray.empty, .slice none 0 0], []⟩) 3 ⟨#[], #[.slice none 0 0, .slice none 0 0, .string ByteArray.empty, .slice none 0 0], []⟩ = true := by kernel_rfl
  refine returnsInHanded_of_row (C := Tryd.checked) (s := (Rows.OpenSpec.upto Rows.fnTxTemplateSpec)) own started (by kernel_rfl) Tryd.func3
    ⟨(World.laidAll Tryd.prog os Rows.fnTxTemplateUptoRow.laid), fun _ _ => 0, ⟨#[], #[.slice none 0 0, .slice none 0 0, .string ByteArray.empty, .slice none 0 0], []⟩, World.laidAll_os _ _ _, World.shaped_of_ZipB (by kernel_rfl) (by kernel_rfl), (Input.okWide_of_okWideB (base := 0) hok).1, (Input.okWide_of_okWideB hok).2,
      OpenSpec.preRow_of_cond 8 hx (by kernel_rfl) (fun k hk => by cases hk; kernel_rfl) (by kernel_rfl) (laid_met os), by
        simp only [Assume.holds]
        exact ⟨by simp, by simp, fun _ => Modest.zero, by simp, by simp⟩⟩ ?_
  intro W base args ds gs before hval0 hW _ hcond hsz0 hL0 _ _
  have hk := hcond _ rfl
  have hsz : (DataW.weightsEach Tryd.prog (Tryd.f3.params.toList ++ Rows.fnTxTemplateSpec.plain.varTypes Tryd.prog) (ds ++ gs)).all (· ≤ reachBytes) = true := hsz0
  have hval : ∀ (j : Nat) t v, Tryd.f3.params[j]? = some t → args[j]? = some v → Value.okWide Tryd.prog W .any base t v := hval0
  have hW' := hW
  obtain ⟨p, q, hA0, hV, rfl, hfz, hnd⟩ := hW
  have hA : DataW.TrodAll enc Tryd.prog W 0 (fun _ => true) true Tryd.f3.params.toList args.toList ds p := hA0
  rw [Tryd.params3] at hA hval hsz
  obtain ⟨v0, vs0, d0, ds0, p0, q0, hargs, rfl, rfl, h0, r0⟩ := trodAll_cons hA
  obtain ⟨v1, vs1, d1, ds1, p1, q1, rfl, rfl, rfl, h1, r1⟩ := trodAll_cons r0
  obtain ⟨v2, vs2, d2, ds2, p2, q2, rfl, rfl, rfl, h2, r2⟩ := trodAll_cons r1
  obtain ⟨v3, vs3, d3, ds3, p3, q3, rfl, rfl, rfl, h3, r3⟩ := trodAll_cons r2
  obtain ⟨rfl, rfl, rfl⟩ := trodAll_nil r3
  obtain rfl : args = #[v0, v1, v2, v3] := by cases args; simp_all
  obtain ⟨rfl, rfl⟩ := trodVars_none hV
  have hbulk : Rows.uptoBulkAll ([d0, d1, d2, d3] ++ []) ≤ 1048576 := of_decide_eq_true hk
  simp only [Rows.uptoBulkAll, List.append_nil] at hbulk
  have k0 := h0
  have lt0 : ∀ x ∈ p0, x.block < W.heap.size := by obtain ⟨m, hm⟩ := k0; exact DataW.trod_lt m _ _ _ hm
  have ok0 := (hval 0 22 v0 rfl rfl)
  have k1 := h1
  have lt1 : ∀ x ∈ p1, x.block < W.heap.size := by obtain ⟨m, hm⟩ := k1; exact DataW.trod_lt m _ _ _ hm
  have ok1 := (hval 1 23 v1 rfl rfl)
  obtain ⟨a2, rfl, rfl, rfl, y2⟩ := open_string Tryd.underlying9 (hval 2 9 v2 rfl rfl) h2
  have k3 := h3
  have lt3 : ∀ x ∈ p3, x.block < W.heap.size := by obtain ⟨m, hm⟩ := k3; exact DataW.trod_lt m _ _ _ hm
  have ok3 := (hval 3 23 v3 rfl rfl)
  rw [MakeChecks.laidMetH_plain _ _ _ (by kernel_rfl)] at hL0
  have hL : laidMet Tryd.prog Rows.fnTxTemplateUptoRow.laid W := hL0
  obtain ⟨A0, n0, cap0, rfl⟩ := okWide_slice Tryd.underlying22 ok0
  obtain ⟨A1, n1, cap1, rfl⟩ := okWide_slice Tryd.underlying23 ok1
  obtain ⟨A3, n3, cap3, rfl⟩ := okWide_slice Tryd.underlying23 ok3
  obtain ⟨ss, rfl, hc0, kd0, bk0⟩ := Tx.strs_open Tryd.underlying22 Tryd.underlying9 (by kernel_rfl) h0
  obtain ⟨gs, rfl, hc1, kd1, bk1⟩ := Tx.ints_open2 Tryd.underlying23 Tryd.underlying3 (by kernel_rfl) h1
  obtain ⟨M, rfl, hc3, kd3, bk3⟩ := Tx.ints_open2 Tryd.underlying23 Tryd.underlying3 (by kernel_rfl) h3
  replace bk0 : Tx.bytesL ss + ss.length ≤ Rows.uptoBulk d0 := bk0
  replace bk1 : gs.length ≤ Rows.uptoBulk d1 := bk1
  replace bk3 : M.length ≤ Rows.uptoBulk d3 := bk3
  have bk2 : a2.size + 1 = Rows.uptoBulk (DataW.lit (H := H) (.string a2.data.toList)) := by simp [Rows.uptoBulk]
  have hU : Tx.UTabs W := Tx.uTabs_of_reads (Lib.laidMet.reads hL (by simp [Rows.fnTxTemplateUptoRow])) (Lib.laidMet.reads hL (by simp [Rows.fnTxTemplateUptoRow])) (Lib.laidMet.reads hL (by simp [Rows.fnTxTemplateUptoRow])) (Lib.laidMet.reads hL (by simp [Rows.fnTxTemplateUptoRow])) (Lib.laidMet.reads hL (by simp [Rows.fnTxTemplateUptoRow]))
  refine (Tx.law_c A0 cap0 ss A1 cap1 gs a2 A3 cap3 M W hU kd0 hc0 kd1 kd3 hc3 (by omega) (by omega) (by omega) (by omega) (by omega)).mono fun e W' ⟨he, bel⟩ => ?_
  subst he
  exact ⟨_, rfl, _, _, _, [], _, [], hW', trodAll_mk1 (shut_bool Tryd.underlying4 _), (trodAll_cons_mk (Below.trod laidOut (by kernel_rfl) (of_decide_eq_true (by kernel_rfl)) k0 bel lt0) (trodAll_cons_mk (Below.trod laidOut (by kernel_rfl) (of_decide_eq_true (by kernel_rfl)) k1 bel lt1) (trodAll_cons_mk (shut_string Tryd.underlying9 y2) (trodAll_cons_mk (Below.trod laidOut (by kernel_rfl) (of_decide_eq_true (by kernel_rfl)) k3 bel lt3) trodAll_mk0)))), rfl, bel.frame _, fun h => by cases h⟩
theorem over : Rows.FnTxTemplateUptoSaid :=
  OpenClaim.holds_of_cond 3 Tryd.f3 rfl rfl rfl rfl rfl rfl rfl ⟨rfl, rfl, rfl, rfl, rfl⟩ rfl rfl rfl rfl rfl (by kernel_rfl) Tryd.func3 (by kernel_rfl)
    (of_decide_eq_true (by kernel_rfl)) (by unfold Func.isWrapper; first | (rw [if_pos (by decide +kernel)]; kernel_rfl) | (rw [if_neg (by decide +kernel)]; exact ⟨rfl, rfl⟩))
    (fun os started H enc _ F => by rw [OpenClaim.pre_eq_preRow]; exact lifted os started H enc F)
theorem proved : Rows.FnTxTemplateUptoCardSaid :=
  Claim7.holds_tied_plain_at .later [] _ _ _ _ over (fun _ h => by cases h) (by kernel_rfl) (fun _ h => by cases h) fnTxTemplateUpto_row_tie rfl ⟨rfl, rfl⟩ (by kernel_rfl) rfl
    (fun f fn hf hfn => by
      obtain rfl : f = 3 := Option.some.inj ((show Tryd.prog.funcNamed "pub-searce/laws.FnTxTemplate" = some 3 by kernel_rfl).symm.trans hf) |>.symm
      obtain rfl : fn = Tryd.f3 := (Option.some.inj (Tryd.func3.symm.trans hfn)).symm
      exact ⟨by kernel_rfl, fun j t ht => by
        rw [Tryd.params3] at ht
        have hm : t ∈ [22, 23, 9, 23] := by simpa using Array.mem_of_getElem? ht
        have hall : ([22, 23, 9, 23].all fun u => !Tryd.prog.wantsStandIn u) = true := by kernel_rfl
        exact (show Tryd.prog.wantsStandIn t = false by simpa using List.all_eq_true.1 hall t hm)⟩)
    (by kernel_rfl)
#print axioms proved
end Go.Proofs.YtmgdlodnhmpbiaaDoor.fnTxTemplate
namespace Go.Proofs.YtmgdlodnhmpbiaaDoor
theorem fnTxTemplateUpto_holds : Rows.FnTxTemplateUptoCardSaid := fnTxTemplate.proved
end Go.Proofs.YtmgdlodnhmpbiaaDoor

