/- A slice of strings that reads as a list; the parts of a template that is written for texts. -/
import Derived.Test.YtmgdlodnhmpbiaaDoorTpGFnTxTemplate
import Derived.Test.YtmgdlodnhmpbiaaDoorTpHFnTxTemplate
import Derived.Test.YtmgdlodnhmpbiaaDoorTpRFnTxTemplate
namespace Go.Proofs.YtmgdlodnhmpbiaaDoor.Tx
open Go.RowKit Go.Lib Ext Mem Go.Proofs.YtmgdlodnhmpbiaaDoor.PFnTxTemplate Go.Proofs.YtmgdlodnhmpbiaaDoorW.PrintWords Go.Proofs.YtmgdlodnhmpbiaaDoorW.PrintLast Go.Proofs.YtmgdlodnhmpbiaaDoorW.PrintMore
set_option linter.unusedVariables false
/-- The slice at A reads as these strings, in a block below B. -/
def StrsAt (w : World) (B : Nat) (A : Option Addr) (ss : List ByteArray) : Prop :=
  0 < ss.length → ∃ b o, A = some ⟨b, o, none⟩ ∧ b < B ∧ ∀ j, j < ss.length → w.cell? ⟨b, o + j, none⟩ = some (.string (ss.getD j ByteArray.empty))
theorem spot_of {w : World} {a : Addr} {v : Value} (h : w.cell? (a.add 0) = some v) : ∃ b o, a = ⟨b, o, none⟩ ∧ b < w.heap.size := by
  have h0 : w.cell? a = some v := by simpa [Addr.add] using h
  have hs := World.cell?_spot h0
  have hb := World.block_lt_of_cell? w _ h0
  obtain ⟨b, o, sp⟩ := a
  simp only at hs
  subst hs
  exact ⟨b, o, rfl, hb⟩
theorem strs_kd {w : World} {A : Option Addr} {ss : List ByteArray} (h : Kd.C Kd.string w A ss.length ss) : StrsAt w w.heap.size A ss := fun hn => by
  obtain ⟨a, rfl, hc⟩ := h.2.2 hn
  have cell : ∀ j, j < ss.length → w.cell? (a.add j) = some (.string (ss.getD j ByteArray.empty)) := fun j hj => by
    obtain ⟨c, hl, hk, hcell⟩ := hc j _ (List.getElem?_eq_getElem hj)
    have hk' : c = [Value.string ss[j]] := hk
    have := hcell 0 (.string ss[j]) (by rw [hk']; rfl)
    simpa [Kd.string, Kd.scalar, List.getD_eq_getElem?_getD, List.getElem?_eq_getElem hj] using this
  obtain ⟨b, o, rfl, hb⟩ := spot_of (cell 0 hn)
  exact ⟨b, o, rfl, hb, fun j hj => by rw [← cell j hj, Addr.add_lit]⟩
theorem ints_kd {w : World} {k : IntKind} {A : Option Addr} {zs : List Int} (h : Kd.C (Kd.int k) w A zs.length zs) : IntsAt w w.heap.size k A zs := fun hn => by
  obtain ⟨a, rfl, hc⟩ := h.2.2 hn
  have cell : ∀ j, j < zs.length → w.cell? (a.add j) = some (.int k (zs.getD j 0)) := fun j hj => by
    obtain ⟨c, hl, hk, hcell⟩ := hc j _ (List.getElem?_eq_getElem hj)
    have hk' : c = [Value.int k zs[j]] := hk
    have := hcell 0 (.int k zs[j]) (by rw [hk']; rfl)
    simpa [Kd.int, Kd.scalar, List.getD_eq_getElem?_getD, List.getElem?_eq_getElem hj] using this
  obtain ⟨b, o, rfl, hb⟩ := spot_of (cell 0 hn)
  exact ⟨b, o, rfl, hb, fun j hj => by rw [← cell j hj, Addr.add_lit]⟩
/-- The texts with their groups' numbers. -/
def itemsOf (ts : List ByteArray) (gs : List Int) : List (List UInt8 × Nat) := (ts.zip gs).map fun x => (x.1.data.toList, x.2.natAbs % 100)
theorem items_len (ts : List ByteArray) (gs : List Int) : (itemsOf ts gs).length = min ts.length gs.length := by simp [itemsOf]
theorem items_take {ts : List ByteArray} {gs : List Int} {i : Nat} (h1 : i < ts.length) (h2 : i < gs.length) :
    (itemsOf ts gs).take (i + 1) = (itemsOf ts gs).take i ++ [((ts.getD i ByteArray.empty).data.toList, (gs.getD i 0).natAbs % 100)] := by
  rw [List.take_add_one]
  congr 1
  simp [itemsOf, List.getElem?_map, List.getElem?_zip_eq_some, List.getD_eq_getElem?_getD, List.getElem?_eq_getElem h1, List.getElem?_eq_getElem h2]
  exact ⟨_, _, ⟨rfl, rfl⟩, rfl, rfl⟩
def bytesL (ts : List ByteArray) : Nat := (ts.map fun t => t.size).sum
theorem items_bytes : ∀ (ts : List ByteArray) (gs : List Int) (i : Nat), (((itemsOf ts gs).take i).map fun x => x.1.length).sum ≤ bytesL ts
  | [], gs, i => by simp [itemsOf]
  | t :: ts, [], i => by simp [itemsOf]
  | t :: ts, z :: gs, 0 => by simp
  | t :: ts, z :: gs, i + 1 => by
    have := items_bytes ts gs i
    have ht : t.data.size = t.size := rfl
    simp only [itemsOf, List.zip_cons_cons, List.map_cons, List.take_succ_cons, List.sum_cons, bytesL, Array.length_toList, ht] at this ⊢
    omega
theorem mem_bytes : ∀ (ts : List ByteArray) (i : Nat), (ts.getD i ByteArray.empty).size ≤ bytesL ts
  | [], i => by simp [bytesL]
  | t :: ts, 0 => by simp [bytesL]
  | t :: ts, i + 1 => by
    have := mem_bytes ts i
    simp only [List.getD_cons_succ, bytesL, List.map_cons, List.sum_cons] at this ⊢
    omega
theorem items_small {ts : List ByteArray} {gs : List Int} {i : Nat} : ∀ x ∈ (itemsOf ts gs).take i, x.2 < 100 := fun x hx => by
  have := List.mem_of_mem_take hx
  simp only [itemsOf, List.mem_map] at this
  obtain ⟨y, _, rfl⟩ := this
  exact Nat.mod_lt _ (by omega)
theorem grp_len (src : ByteArray) (M : List Int) (n : Nat) : (grpL src M n).length ≤ src.size := by
  unfold grpL
  split
  · rw [Array.length_toList]
    show (src.extract _ _).size ≤ _
    rw [ByteArray.size_extract]; omega
  · simp
theorem str_of_list {a : ByteArray} {l : List UInt8} (h : a.data.toList = l) : a = strOfNums (bi l) := by
  have h2 := strOf_bi l
  cases a with
  | mk a =>
    generalize strOfNums (bi l) = b at h2 ⊢
    cases b with
    | mk b =>
      have : a = b := by rw [← Array.toList_inj]; exact h.trans h2.symm
      rw [this]
theorem bcs_nums (l : List UInt8) : bcs l = nums .u8 (bi l) := by simp [bcs, nums, bi]
end Go.Proofs.YtmgdlodnhmpbiaaDoor.Tx
