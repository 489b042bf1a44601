/- Where the variables of folding read as Go's text lays them, the walk's facts on them hold. -/
import Derived.Test.YtmgdlodnhmpbiaaDoorSFold
import Derived.Lib.LaidU8
import Derived.Lib.LaidCase
import Derived.PinnedBridge
namespace Go.Proofs.YtmgdlodnhmpbiaaDoor.Fold
open Go.RowKit Go.Lib Go.ChangeShapes Go.WideShapes
set_option linter.unusedVariables false
theorem ascii_data : (Rows.laid_unicode_asciiFold : DataW Unit) = .agg (asciiL.map fun n => .lit (.int .u16 (n : Nat))) := by kernel_rfl
theorem orb_data : (Rows.laid_unicode_caseOrbit : DataW Unit) = .slice (orbL.map fun x => .agg ([(x.1 : Int), (x.2 : Int)].map fun z => .lit (.int .u16 z))) [] := by kernel_rfl
theorem ascii_of_reads {w : World} (h : VarReads Tryd.prog w "unicode.asciiFold" Rows.laid_unicode_asciiFold) : ∀ i, i < 128 → w.cell? ⟨2, i, none⟩ = some (.int .u16 ((asciiL.getD i 0 : Nat) : Int)) := by
  obtain ⟨g, t, cs, fuel, p, hg, hty, hvar, hd⟩ := h
  obtain rfl := Option.some.inj ((show Tryd.prog.globalNamed "unicode.asciiFold" = some 2 by kernel_rfl).symm.trans hg)
  obtain rfl := Option.some.inj ((show (Tryd.prog.globals[2]?).map (·.type) = some 165 by kernel_rfl).symm.trans hty)
  rw [ascii_data] at hd
  intro i hi
  obtain ⟨f', d, q, hd1, hd2⟩ := array_elem Tryd.underlying165 hd i hi
  have c1 : Tryd.prog.cellsOf 108 = 1 := by kernel_rfl
  have hl : i < asciiL.length := hi
  simp only [List.getElem?_map, List.getElem?_eq_getElem hl, Option.map_some, Option.some.injEq] at hd1
  subst hd1
  rw [c1] at hd2
  obtain ⟨z, hcz, hz, _⟩ := DataW.trod_int Tryd.underlying108 hd2
  simp only [Prod.mk.injEq, DataW.lit.injEq, Lit.int.injEq, true_and] at hz
  have h2 : cs.toList[i]? = some (.int .u16 z) := by
    have := congrArg (·[0]?) hcz
    simpa [List.getElem?_take, List.getElem?_drop] using this
  rw [World.var?_cell hg hvar i, ← Array.getElem?_toList, h2, List.getD_eq_getElem?_getD, List.getElem?_eq_getElem hl, Option.getD_some, hz.1]
theorem orb_of_reads {w : World} (h : VarReads Tryd.prog w "unicode.caseOrbit" Rows.laid_unicode_caseOrbit) : ∃ R o c, w.cell? ⟨3, 0, none⟩ = some (.slice (some ⟨R, o, none⟩) 94 c) ∧
    ∀ i, i < 94 → w.cell? ⟨R, o + i * 2, none⟩ = some (.int .u16 ((orbA.getD i (0, 0)).1 : Nat)) ∧ w.cell? ⟨R, o + i * 2 + 1, none⟩ = some (.int .u16 ((orbA.getD i (0, 0)).2 : Nat)) := by
  obtain ⟨g, t, cs, fuel, p, hg, hty, hvar, hd⟩ := h
  obtain rfl := Option.some.inj ((show Tryd.prog.globalNamed "unicode.caseOrbit" = some 3 by kernel_rfl).symm.trans hg)
  obtain rfl := Option.some.inj ((show (Tryd.prog.globals[3]?).map (·.type) = some 166 by kernel_rfl).symm.trans hty)
  rw [orb_data] at hd
  rcases DataW.trod_slice Tryd.underlying166 hd with ⟨_, hx'⟩ | ⟨a', len, cap, el, rs, m, rfl, hc0, hx', _, hlc, _, hel, helem, hsp, _⟩
  · cases hx'
  have e0 := congrArg Prod.fst hx'
  simp only [DataW.slice.injEq] at e0
  obtain ⟨eE, eR⟩ := e0
  have hlen : len = 94 := by
    have := congrArg List.length eE
    have h94 : orbL.length = 94 := by kernel_rfl
    simp at this
    omega
  subst hlen
  have c2 : Tryd.prog.cellsOf 168 = 2 := by kernel_rfl
  have hrow : ∀ i, i < 94 → ∀ j, j < 2 → w.cell? ((a'.add (i * 2)).add j) = ([.int .u16 ((orbA.getD i (0, 0)).1 : Nat), .int .u16 ((orbA.getD i (0, 0)).2 : Nat)] : List Value)[j]? := by
    intro i hi j hj
    have h1 := helem i hi
    rw [c2] at h1
    obtain ⟨b, hb⟩ : ∃ b, el[i]? = some b := ⟨el[i]'(by omega), List.getElem?_eq_getElem (by omega)⟩
    rw [hb] at h1
    obtain ⟨ce, hce, hte⟩ := Option.bind_eq_some_iff.1 h1
    have hl : i < orbL.length := hi
    have hga : orbA.getD i (0, 0) = orbL[i] := by simp [orbA, Array.getD, hl]
    have hb1 : b.1 = .agg ([((orbA.getD i (0, 0)).1 : Int), ((orbA.getD i (0, 0)).2 : Int)].map fun z => .lit (.int .u16 z)) := by
      have := congrArg (·[i]?) eE
      simp only [List.getElem?_map, hb, Option.map_some] at this
      rw [List.getElem?_eq_getElem hl] at this
      simp only [Option.map_some, Option.some.injEq] at this
      rw [← this, hga]
    have hte' := hte
    rw [show b = (b.1, b.2) from rfl, hb1] at hte'
    have hcs := ints_of_struct (k := .u16) Tryd.underlying168 (fun i f hf => by
      match i, hf with
      | 0, hf => obtain rfl := Option.some.inj hf; exact ⟨Tryd.underlying108, rfl, by kernel_rfl⟩
      | 1, hf => obtain rfl := Option.some.inj hf; exact ⟨Tryd.underlying108, rfl, by kernel_rfl⟩
      | i + 2, hf => cases hf) (by kernel_rfl) hte'
    obtain ⟨_, _, hcc⟩ := World.cells?_some hce
    rw [hcc j hj, hcs]
    rfl
  obtain ⟨R, oR, sR⟩ := a'
  obtain rfl : sR = none := by
    have h00 := hrow 0 (by omega) 0 (by omega)
    have : (Addr.add (Addr.add ⟨R, oR, sR⟩ (0 * 2)) 0) = ⟨R, oR, sR⟩ := by simp [Addr.add]
    rw [this] at h00
    exact cell_spot h00
  refine ⟨R, oR, cap, ?_, fun i hi => ?_⟩
  · rw [World.var?_cell hg hvar 0, ← Array.getElem?_toList, hc0]
    rfl
  · have k0 := hrow i hi 0 (by omega)
    have k1 := hrow i hi 1 (by omega)
    rw [Addr.add_lit, Addr.add_lit] at k0 k1
    exact ⟨by simpa using k0, by simpa using k1⟩
theorem lt_of_cell' {w : World} {b o : Nat} {v : Value} (h : w.cell? ⟨b, o, none⟩ = some v) : b < w.heap.size := by
  rcases Nat.lt_or_ge b w.heap.size with h' | h'
  · exact h'
  · simp [World.cell?, Array.getElem?_eq_none h'] at h
def caseRen : Go.Shelf.Ren := ⟨Tryd.lays274_ren.f, Tryd.lays274_ren.t, fun _ => 4⟩
theorem caseLays : Go.Proofs.Lays.n274 Tryd.prog caseRen := { Tryd.lays274 with }
theorem caseX : CaseExtra Tryd.prog caseRen := ⟨by kernel_rfl, by kernel_rfl, by kernel_rfl, by kernel_rfl, by kernel_rfl, by kernel_rfl⟩
/-- All three tables. -/
theorem foldV_of_reads {w : World} (h1 : VarReads Tryd.prog w "unicode.asciiFold" Rows.laid_unicode_asciiFold) (h2 : VarReads Tryd.prog w "unicode.caseOrbit" Rows.laid_unicode_caseOrbit) (h3 : VarReads Tryd.prog w "unicode.CaseRanges" Rows.laid_unicode_CaseRanges) : FoldV w.heap.size w := by
  have ha := ascii_of_reads h1
  obtain ⟨R, o, c, ho, ht⟩ := orb_of_reads h2
  have h3' : VarReads Tryd.prog w "unicode.CaseRanges" caseData := by rw [← Pinned.caseRanges_eq]; exact h3
  obtain ⟨R2, o2, c2, ho2, ht2⟩ := caseVar_of_reads caseLays (by kernel_rfl) caseX h3'
  have hz : caseA.size = 336 := caseA_size
  rw [hz] at ho2
  have ho2 : w.cell? ⟨4, 0, none⟩ = some (.slice (some ⟨R2, o2, none⟩) 336 c2) := ho2
  exact ⟨ha, ⟨R, o, c, lt_of_cell' (ht 0 (by omega)).1, ho, ht⟩, ⟨R2, o2, c2, lt_of_cell' (ht2 0 (by rw [hz]; omega)).1, ho2, ht2⟩, lt_of_cell' (ha 0 (by omega)), lt_of_cell' ho, lt_of_cell' ho2⟩
end Go.Proofs.YtmgdlodnhmpbiaaDoor.Fold
