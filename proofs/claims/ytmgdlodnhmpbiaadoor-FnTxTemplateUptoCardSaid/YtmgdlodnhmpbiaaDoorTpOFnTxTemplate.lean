/- Slices of strings and of whole numbers handed in, as the printed texts read them, and their bulk. -/
import Derived.Test.YtmgdlodnhmpbiaaDoorTpIFnTxTemplate
import Derived.ChangeSlices
import Derived.SliceStrings
import Derived.DataReads
import Derived.OpenShut
namespace Go.Proofs.YtmgdlodnhmpbiaaDoor.Tx
open Go.RowKit Go.Lib Go.ChangeShapes Go.WideShapes Ext Mem Go.Proofs.YtmgdlodnhmpbiaaDoor.PFnTxTemplate Go.Proofs.YtmgdlodnhmpbiaaDoorW.PrintWords Go.Proofs.YtmgdlodnhmpbiaaDoorW.PrintLast Go.Proofs.YtmgdlodnhmpbiaaDoorW.PrintMore
set_option linter.unusedVariables false
theorem bulk_one {H : Type} (d : DataW H) : 1 ≤ Rows.uptoBulk d := by
  cases d with
  | lit l => cases l <;> simp [Rows.uptoBulk]
  | nil => simp [Rows.uptoBulk]
  | ptr d => simp [Rows.uptoBulk]
  | slice elems spare => simp [Rows.uptoBulk]
  | agg parts => simp [Rows.uptoBulk]
  | iface t d => simp [Rows.uptoBulk]
  | map entries => simp [Rows.uptoBulk]
  | held h => simp [Rows.uptoBulk]
theorem bulk_len {H : Type} : ∀ (l : List (DataW H)), l.length ≤ Rows.uptoBulkAll l
  | [] => by simp [Rows.uptoBulkAll]
  | x :: l => by
    have h1 := bulk_one x
    have h2 := bulk_len l
    simp only [Rows.uptoBulkAll, List.length_cons]; omega
theorem bulk_strs {H : Type} : ∀ (ss : List ByteArray), bytesL ss + ss.length ≤ Rows.uptoBulkAll (strs (H := H) ss)
  | [] => by simp [bytesL]
  | s :: ss => by
    have := bulk_strs (H := H) ss
    have h2 : s.data.size = s.size := rfl
    simp only [strs, List.map_cons, Rows.uptoBulkAll, Rows.uptoBulk, bytesL, List.sum_cons, List.length_cons, Array.length_toList, h2] at this ⊢
    omega
section
variable {H : Type} {enc : TypeId × Value → H} {P : Program} {w : World} {base : Nat} {held : Bool} {t e : TypeId} {A : Option Addr} {n c : Nat} {x : DataW H × List MemPlace}
theorem strs_open (ht : P.underlying t = some (.slice e)) (he : P.underlying e = some .string) (hc : P.cellsOf e = 1) (h : ∃ fuel, DataW.trod enc P w base (fun _ => true) held fuel t (Value.slice A n c).cells.toList = some x) :
    ∃ ss : List ByteArray, ss.length = n ∧ n ≤ c ∧ Kd.C Kd.string w A n ss ∧ bytesL ss + ss.length ≤ Rows.uptoBulk x.1 := by
  obtain ⟨fuel, hf⟩ := h
  rcases open_strings ht he hc hf with ⟨hcs, hx⟩ | ⟨a, l, c', ss, hcs, _, hl, hm, hz, hx, hcell, _⟩
  · simp [Value.cells] at hcs
    obtain ⟨rfl, rfl, rfl⟩ := hcs
    exact ⟨[], rfl, Nat.le_refl _, ⟨rfl, by simp, fun h => absurd h (by simp)⟩, by simp [bytesL]⟩
  · simp [Value.cells] at hcs
    obtain ⟨rfl, rfl, rfl⟩ := hcs
    simp only [if_true] at hz
    have hlen : (ss.take n).length = n := by simp; omega
    refine ⟨ss.take n, hlen, hl, ⟨hlen, by unfold maxLen at hm; omega, fun _ => ⟨a, rfl, fun j p hj => ⟨[.string p], rfl, rfl, fun i u hu => ?_⟩⟩⟩, ?_⟩
    · have hi : i = 0 := by
        cases i with
        | zero => rfl
        | succ i => simp at hu
      subst hi
      simp at hu
      subst hu
      have hjl : j < n := by
        rcases Nat.lt_or_ge j n with h | h
        · exact h
        · rw [List.getElem?_eq_none (by omega)] at hj; cases hj
      have := hcell j (by omega)
      rw [List.getElem?_take, if_pos hjl] at hj
      simp only [Kd.string, Kd.scalar, Nat.mul_one, Nat.add_zero]
      rw [this, List.getD_eq_getElem?_getD, hj]
      rfl
    · rw [hx]
      have h1 := bulk_strs (H := H) (ss.take n)
      simp only [Rows.uptoBulk]
      omega
theorem ints_open2 {k : IntKind} (ht : P.underlying t = some (.slice e)) (he : P.underlying e = some (.int k)) (hc : P.cellsOf e = 1) (h : ∃ fuel, DataW.trod enc P w base (fun _ => true) held fuel t (Value.slice A n c).cells.toList = some x) :
    ∃ zs : List Int, zs.length = n ∧ n ≤ c ∧ Kd.C (Kd.int k) w A n zs ∧ zs.length ≤ Rows.uptoBulk x.1 := by
  obtain ⟨fuel, hf⟩ := h
  rcases open_ints ht he hc hf with ⟨hcs, hx⟩ | ⟨a, l, c', zs, hcs, _, hl, hm, hz, hx, hcell, hwz⟩
  · simp [Value.cells] at hcs
    obtain ⟨rfl, rfl, rfl⟩ := hcs
    exact ⟨[], rfl, Nat.le_refl _, ⟨rfl, by simp, fun h => absurd h (by simp)⟩, by simp⟩
  · simp [Value.cells] at hcs
    obtain ⟨rfl, rfl, rfl⟩ := hcs
    simp only [if_true] at hz
    have hlen : (zs.take n).length = n := by simp; omega
    refine ⟨zs.take n, hlen, hl, ⟨hlen, by unfold maxLen at hm; omega, fun _ => ⟨a, rfl, fun j p hj => ⟨[.int k p], rfl, rfl, fun i u hu => ?_⟩⟩⟩, ?_⟩
    · have hi : i = 0 := by
        cases i with
        | zero => rfl
        | succ i => simp at hu
      subst hi
      simp at hu
      subst hu
      have hjl : j < n := by
        rcases Nat.lt_or_ge j n with h | h
        · exact h
        · rw [List.getElem?_eq_none (by omega)] at hj; cases hj
      have := hcell j (by omega)
      rw [List.getElem?_take, if_pos hjl] at hj
      simp only [Kd.int, Kd.scalar, Nat.mul_one, Nat.add_zero]
      rw [this, List.getD_eq_getElem?_getD, hj]
      rfl
    · rw [hx]
      have h1 := bulk_len (lits (H := H) k (zs.take n))
      have h2 : (lits (H := H) k (zs.take n)).length = (zs.take n).length := by simp [lits]
      simp only [Rows.uptoBulk]
      omega
end
end Go.Proofs.YtmgdlodnhmpbiaaDoor.Tx
