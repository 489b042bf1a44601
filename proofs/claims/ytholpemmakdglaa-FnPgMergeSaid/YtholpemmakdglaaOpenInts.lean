/- A slice of whole numbers that came in as an argument reads as a list. -/
import Derived.Test.YtholpemmakdglaaInts
import Derived.ChangeSlices
import Derived.DataReads
import Derived.OpenShut
namespace Go.Proofs.Ytholpemmakdglaa.Mem
open Go.RowKit Go.ChangeShapes Go.WideShapes
set_option linter.unusedVariables false
theorem ints_open {H : Type} {enc : TypeId × Value → H} {P : Program} {w : World} {base : Nat} {held : Bool} {t e : TypeId} {k : IntKind} {A : Option Addr} {n c : Nat} {x : DataW H × List MemPlace}
    (ht : P.underlying t = some (.slice e)) (he : P.underlying e = some (.int k)) (hc : P.cellsOf e = 1) (h : ∃ fuel, DataW.trod enc P w base (fun _ => true) held fuel t (Value.slice A n c).cells.toList = some x) :
    ∃ zs : List Int, zs.length = n ∧ IntsAt w w.heap.size k A zs ∧ (∀ z ∈ zs, (Lit.int k z).wf = true) ∧ n ≤ c := by
  obtain ⟨fuel, hf⟩ := h
  rcases open_ints ht he hc hf with ⟨hcs, _⟩ | ⟨a, l, c', zs, hcs, _, hl, hm, hz, _, hcell, hwz⟩
  · simp [Value.cells] at hcs
    obtain ⟨rfl, rfl, rfl⟩ := hcs
    exact ⟨[], rfl, fun h => absurd h (by simp), by simp, Nat.le_refl _⟩
  · simp [Value.cells] at hcs
    obtain ⟨rfl, rfl, rfl⟩ := hcs
    simp only [if_true] at hz
    refine ⟨zs.take n, by simp; omega, fun hn => ?_, ⟨fun z hz' => hwz z (List.mem_of_mem_take hz'), hl⟩⟩
    have hn' : 0 < n := by simp at hn; omega
    have h0 := hcell 0 (by omega)
    have hs : a.spot = none := World.cell?_spot (by simpa [Addr.add] using h0)
    obtain ⟨b, o, sp⟩ := a
    simp only at hs
    subst hs
    refine ⟨b, o, rfl, ?_, fun j hj => ?_⟩
    · simp only [World.cell?, Addr.add, if_true] at h0
      cases hb : w.heap[b]? with
      | none => rw [hb] at h0; simp at h0
      | some ob => exact (Array.getElem?_eq_some_iff.1 hb).1
    · have hj' : j < n := by simp at hj; omega
      have := hcell j (by omega)
      rw [Addr.add_lit] at this
      rw [this]
      simp [List.getD_eq_getElem?_getD, hj']
end Go.Proofs.Ytholpemmakdglaa.Mem
