/- A syntax tree that came in as an argument reads as a tree of the printed texts. -/
import Derived.Test.YtholpemmakdglaaPFnSyRepeatValidx0
import Derived.ChangeSlices
import Derived.DataReads
import Derived.OpenShut
import Derived.Deep.Slices
namespace Go.Proofs.Ytholpemmakdglaa.PFnSyRepeatValid
open Go.RowKit Go.ChangeShapes Go.WideShapes Go.Proofs.YtholpemmakdglaaW.PrintWords Go.Proofs.YtholpemmakdglaaW.PrintLast Go.Proofs.YtholpemmakdglaaW.PrintMore
set_option linter.unusedVariables false
theorem list_of {α : Type} {P : Nat → α → Prop} : ∀ n, (∀ i, i < n → ∃ t, P i t) → ∃ ts : List α, ts.length = n ∧ ∀ (j : Nat) (p : α), ts[j]? = some p → P j p
  | 0, _ => ⟨[], rfl, fun j p hj => by simp at hj⟩
  | l + 1, hall => by
    obtain ⟨ts, hl, hts⟩ := list_of l fun i hi => hall i (by omega)
    obtain ⟨t, h1⟩ := hall l (by omega)
    refine ⟨ts ++ [t], by simp [hl], fun j p hj => ?_⟩
    rcases Nat.lt_or_ge j l with h | h
    · rw [List.getElem?_append_left (by omega)] at hj
      exact hts j p hj
    · have hjl : j = l := by
        rcases Nat.eq_or_lt_of_le h with h | h
        · exact h.symm
        · rw [List.getElem?_eq_none (by simp; omega)] at hj; cases hj
      subst hjl
      rw [List.getElem?_append_right (by omega)] at hj
      simp [hl] at hj
      subst hj
      exact h1
section
variable {H : Type} {enc : TypeId × Value → H} {w : World} {base : Nat} {held : Bool}
/-- A slice of whole numbers handed in, as the printed texts read it. -/
theorem ints_kd {t e : TypeId} {k : IntKind} {v : Value} {fuel : Nat} {x : DataW H × List MemPlace} (ht : Try.prog.underlying t = some (.slice e)) (he : Try.prog.underlying e = some (.int k)) (hc : Try.prog.cellsOf e = 1)
    (h : DataW.trod enc Try.prog w base (fun _ => true) held fuel t [v] = some x) : ∃ A c, ∃ zs : List Int, v = .slice A zs.length c ∧ zs.length ≤ c ∧ (Kd.int k).C w A zs.length zs := by
  rcases open_ints ht he hc h with ⟨hcs, _⟩ | ⟨a, l, c', zs, hcs, _, hl, hm, hz, _, hcell, hwz⟩
  · simp at hcs
    exact ⟨none, 0, [], hcs, Nat.le_refl _, rfl, by simp, fun h => absurd h (by simp)⟩
  · simp at hcs
    subst hcs
    simp only [if_true] at hz
    have hlen : (zs.take l).length = l := by simp; omega
    refine ⟨some a, c', zs.take l, by rw [hlen], by omega, rfl, by rw [hlen]; unfold maxLen at hm; omega, fun _ => ⟨a, rfl, fun j p hj => ⟨[.int k p], rfl, rfl, fun i u hu => ?_⟩⟩⟩
    have hi : i = 0 := by
      cases i with
      | zero => rfl
      | succ i => simp at hu
    subst hi
    simp at hu
    subst hu
    have hjl : j < l := by
      rcases Nat.lt_or_ge j l with h | h
      · exact h
      · rw [List.getElem?_eq_none (by omega)] at hj; cases hj
    have hsz : (Kd.int k).sz = 1 := rfl
    rw [hsz, Nat.mul_one, Nat.add_zero, hcell j (by omega)]
    rw [List.getElem?_take, if_pos hjl] at hj
    rw [List.getD_eq_getElem?_getD, hj]
    rfl
theorem tree_open : ∀ (fuel : Nat) {cs : List Value} {x : DataW H × List MemPlace}, DataW.trod enc Try.prog w base (fun _ => true) held fuel 35 cs = some x → ∃ t : S35, k35.K w t cs := by
  intro fuel
  induction fuel using Nat.strongRecOn with
  | _ fuel ih =>
    intro cs x h
    obtain ⟨xs, n, hn, _, hl, hxl, hf⟩ := DataW.trod_struct Try.underlying35 h
    have hl8 : cs.length = 8 := hl.trans (by kernel_rfl)
    match cs, hl8 with
    | [v0, v1, v2, v3, v4, v5, v6, v7], _ =>
      have c1 : Try.prog.cellsOf 3 = 1 := by kernel_rfl
      have c2 : Try.prog.cellsOf 26 = 1 := by kernel_rfl
      have c3 : Try.prog.cellsOf 9 = 1 := by kernel_rfl
      have c4 : Try.prog.cellsOf 33 = 1 := by kernel_rfl
      have f0 := hf 0 _ rfl
      have f1 := hf 1 _ rfl
      have f2 := hf 2 _ rfl
      have f3 := hf 3 _ rfl
      have f4 := hf 4 _ rfl
      have f5 := hf 5 _ rfl
      have f6 := hf 6 _ rfl
      have f7 := hf 7 _ rfl
      have hx : ∀ i, i < 8 → ∃ y, xs[i]? = some y := fun i hi => ⟨_, List.getElem?_eq_getElem (by rw [hxl]; exact hi)⟩
      obtain ⟨y0, e0⟩ := hx 0 (by omega)
      obtain ⟨y1, e1⟩ := hx 1 (by omega)
      obtain ⟨y2, e2⟩ := hx 2 (by omega)
      obtain ⟨y3, e3⟩ := hx 3 (by omega)
      obtain ⟨y4, e4⟩ := hx 4 (by omega)
      obtain ⟨y5, e5⟩ := hx 5 (by omega)
      obtain ⟨y6, e6⟩ := hx 6 (by omega)
      obtain ⟨y7, e7⟩ := hx 7 (by omega)
      rw [e0] at f0; rw [e1] at f1; rw [e2] at f2; rw [e3] at f3; rw [e4] at f4; rw [e5] at f5; rw [e6] at f6; rw [e7] at f7
      simp [c1] at f0 f1 f3 f4 f5
      simp [c2] at f2
      simp [c3] at f6
      simp [c4] at f7
      obtain ⟨op, h0, _, _⟩ := DataW.trod_int Try.underlying3 f0
      obtain ⟨fl, h1, _, _⟩ := DataW.trod_int Try.underlying3 f1
      obtain ⟨mn, h3, _, _⟩ := DataW.trod_int Try.underlying3 f3
      obtain ⟨mx, h4, _, _⟩ := DataW.trod_int Try.underlying3 f4
      obtain ⟨cp, h5, _, _⟩ := DataW.trod_int Try.underlying3 f5
      obtain ⟨nm, h6, _, _⟩ := DataW.trod_string Try.underlying9 f6
      simp at h0 h1 h3 h4 h5 h6
      subst h0 h1 h3 h4 h5 h6
      obtain ⟨A, c, rs, rfl, hrc, hr⟩ := ints_kd Try.underlying26 Try.underlying21 (by kernel_rfl) f2
      have hs : ∃ A c, ∃ ts : List S35, v7 = .slice A ts.length c ∧ ts.length ≤ c ∧ k35.C w A ts.length ts := by
        rcases DataW.trod_slice Try.underlying33 f7 with ⟨hcs, _⟩ | ⟨a, len, cap, el, rest, m, hfu, hcs, _, _, hlc, hcm, hel, helem, _, _⟩
        · simp at hcs
          exact ⟨none, 0, [], hcs, Nat.le_refl _, rfl, by simp, fun h => absurd h (by simp)⟩
        · simp at hcs
          subst hcs
          have c8 : Try.prog.cellsOf 35 = 8 := by kernel_rfl
          have hall : ∀ i, i < len → ∃ (t : S35) (ce : List Value), ce.length = 8 ∧ k35.K w t ce ∧ ∀ j u, ce[j]? = some u → w.cell? (a.add (i * 8 + j)) = some u := by
            intro i hi
            have h1 := helem i hi
            rw [c8] at h1
            obtain ⟨b, hb⟩ : ∃ b, el[i]? = some b := ⟨_, List.getElem?_eq_getElem (by omega)⟩
            rw [hb] at h1
            obtain ⟨ce, hce, hte⟩ := Option.bind_eq_some_iff.1 h1
            obtain ⟨_, hcl, hcc⟩ := World.cells?_some hce
            obtain ⟨t, ht⟩ := ih m (by omega) hte
            refine ⟨t, ce, hcl, ht, fun j u hj => ?_⟩
            have hj8 : j < 8 := by
              rcases Nat.lt_or_ge j 8 with h | h
              · exact h
              · rw [List.getElem?_eq_none (by omega)] at hj; cases hj
            rw [← hj, ← hcc j hj8, Go.Deep.add_add]
          have hch : ∃ ts : List S35, ts.length = len ∧ ∀ (j : Nat) (p : S35), ts[j]? = some p → ∃ c, c.length = 8 ∧ k35.K w p c ∧ ∀ i u, c[i]? = some u → w.cell? (a.add (j * 8 + i)) = some u := by
            exact list_of len hall
          obtain ⟨ts, hl, hts⟩ := hch
          exact ⟨some a, cap, ts, by rw [hl], by omega, rfl, by rw [hl]; unfold maxLen at hcm; omega, fun _ => ⟨a, rfl, hts⟩⟩
      obtain ⟨A7, c7, ts, rfl, h7c, h7⟩ := hs
      exact ⟨⟨op, fl, rs, mn, mx, cp, nm, ts⟩, k35_mk w ⟨op, fl, rs, mn, mx, cp, nm, ts⟩ hrc hr h7c h7⟩
end
end Go.Proofs.Ytholpemmakdglaa.PFnSyRepeatValid
