/- A list out of its elements' witnesses. The reference's functions of a syntax tree, without rounds. The reference's checks of a node, and those of the thin package, without rounds. The reference's checks of a tree, and the thin package's check of a node, without rounds. The least length of a tree, in plain numbers. -/
import Derived.Test.YtholpemmakdglaaDoorPFnMtLeastLenx0
import Derived.ChangeSlices
import Derived.DataReads
import Derived.OpenShut
import Derived.Deep.Slices
import Derived.Test.YtholpemmakdglaaDoorPFnMtLeastLenx
namespace Go.Proofs.YtholpemmakdglaaDoor.PFnMtLeastLen
open Go.RowKit Go.ChangeShapes Go.WideShapes Go.Proofs.YtholpemmakdglaaDoorW.PrintWords Go.Proofs.YtholpemmakdglaaDoorW.PrintLast Go.Proofs.YtholpemmakdglaaDoorW.PrintMore
set_option linter.unusedVariables false
theorem list_of {α : Type} {P : Nat → α → Prop} : ∀ n, (∀ i, i < n → ∃ t, P i t) → ∃ ts : List α, ts.length = n ∧ ∀ (j : Nat) (p : α), ts[j]? = some p → P j p
  | 0, _ => ⟨[], rfl, fun j p hj => by simp at hj⟩
  | l + 1, hall => by
    obtain ⟨ts, hl, hts⟩ := list_of l fun i hi => hall i (by omega)
    obtain ⟨t, h1⟩ := hall l (by omega)
    refine ⟨ts ++ [t], by simp [hl], fun j p hj => ?_⟩
    rcases Nat.lt_or_ge j l with h | h
    · rw [List.getElem?_append_left (by omega)] at hj
      exact hts j p hj
    · have hjl : j = l := by
        rcases Nat.eq_or_lt_of_le h with h | h
        · exact h.symm
        · rw [List.getElem?_eq_none (by simp; omega)] at hj; cases hj
      subst hjl
      rw [List.getElem?_append_right (by omega)] at hj
      simp [hl] at hj
      subst hj
      exact h1
end Go.Proofs.YtholpemmakdglaaDoor.PFnMtLeastLen
namespace Go.Proofs.YtholpemmakdglaaDoor.PFnMtLeastLen
open Go.RowKit Go.Proofs.YtholpemmakdglaaDoorW.PrintWords Go.Proofs.YtholpemmakdglaaDoorW.PrintLast Go.Proofs.YtholpemmakdglaaDoorW.PrintMore
set_option linter.unusedVariables false
abbrev Tr := S40
/-- Every list in a tree is short enough to be counted. -/
def Fits (n : Nat) : Prop := n ≤ 9223372036854775807
mutual
def wfT : Tr → Prop
  | ⟨_, _, rs, _, _, _, _, ts⟩ => Fits rs.length ∧ Fits ts.length ∧ wfL ts
def wfL : List Tr → Prop
  | [] => True
  | t :: ts => wfT t ∧ wfL ts
end
theorem wfL_of : ∀ ts : List Tr, (∀ (j : Nat) (p : Tr), ts[j]? = some p → wfT p) → wfL ts
  | [], _ => by simp [wfL]
  | t :: ts, h => by
    rw [wfL]
    exact ⟨h 0 t rfl, wfL_of ts fun j p hj => h (j + 1) p (by simpa using hj)⟩
theorem k_wf : ∀ (t : Tr) {w : World} {cs : List Value}, k40.K w t cs → wfT t
  | ⟨op, fl, rs, mn, mx, cp, nm, ts⟩, w, cs, h => by
    obtain ⟨A2, c2, A7, c7, _, _, h2, _, h7⟩ := k40_open h
    rw [wfT]
    refine ⟨h2.2.1, h7.2.1, wfL_of ts fun j p hj => ?_⟩
    have hlt : j < ts.length := by
      rcases Nat.lt_or_ge j ts.length with h | h
      · exact h
      · rw [List.getElem?_eq_none h] at hj; cases hj
    obtain ⟨ad, _, hc⟩ := h7.2.2 (by simp only; omega)
    obtain ⟨c, _, hK, _⟩ := hc j p hj
    have hm : p ∈ ts := List.mem_of_getElem? hj
    have hsz := List.sizeOf_lt_of_mem hm
    exact k_wf p hK
termination_by t => SizeOf.sizeOf t
decreasing_by
  simp_wf
  omega
mutual
/-- The groups numbered in the order in which they open, from n on; -1 if one has another number. -/
def capsT : Tr → Int → Int
  | ⟨op, _, _, _, _, cp, _, ts⟩, n => if op = 13 then (if cp = n then capsL ts (wrap64 (n + 1)) else -1) else capsL ts n
def capsL : List Tr → Int → Int
  | [], n => n
  | t :: ts, n => if capsT t n < 0 then -1 else capsL ts (capsT t n)
end
def sizeE (op : Int) (len : Nat) (m0 m1 : Int) (sub : Nat) (acc m : Int) : Int :=
  if op = 17 then mn (wrap64 (mn (wrap64 (wrap64 (acc + 1) * mx (mx (wrap64 (m0 + 1)) m1) 1)) (wrap64 (m + 1)) + 2)) (wrap64 (m + 1))
  else if op = 3 then mn (wrap64 ((len : Int) + 2)) (wrap64 (m + 1))
  else if op = 19 then mn (wrap64 (wrap64 (acc + (sub : Int)) + 2)) (wrap64 (m + 1))
  else mn (wrap64 (acc + 2)) (wrap64 (m + 1))
mutual
/-- The sum over a tree, capped behind m. -/
def sizeT : Tr → Int → Int
  | ⟨op, _, rs, m0, m1, _, _, ts⟩, m => sizeE op rs.length m0 m1 ts.length (sizeL ts m 0) m
def sizeL : List Tr → Int → Int → Int
  | [], m, acc => acc
  | t :: ts, m, acc => sizeL ts m (mn (wrap64 (acc + sizeT t m)) (wrap64 (m + 1)))
end
def cntT (op m0 m1 : Int) : Int := if op = 17 then (if m1 < 0 then mx m0 1 else m1) else 1
mutual
/-- The greatest product of counts. -/
def copT : Tr → Int
  | ⟨op, _, _, m0, m1, _, _, ts⟩ => if cntT op m0 m1 = 0 then 1 else mn (wrap64 (cntT op m0 m1 * copL ts 1)) 1001
def copL : List Tr → Int → Int
  | [], acc => acc
  | t :: ts, acc => copL ts (mx acc (copT t))
end
theorem rd_at {xs : List Tr} {i : Nat} {t : Tr} {ts : List Tr} (h : xs.drop i = t :: ts) : i < xs.length ∧ rd_T40 xs i = t ∧ xs.drop (i + 1) = ts := by
  have hlt : i < xs.length := by
    rcases Nat.lt_or_ge i xs.length with h' | h'
    · exact h'
    · rw [List.drop_of_length_le h'] at h; cases h
  rw [List.drop_eq_getElem_cons hlt] at h
  injection h with h1 h2
  refine ⟨hlt, ?_, h2⟩
  unfold rd_T40
  rw [Int.toNat_natCast, List.getD_eq_getElem?_getD, List.getElem?_eq_getElem hlt, h1]
  rfl
theorem wrap_i {i n : Nat} (h : i < n) (hn : Fits n) : wrap64 ((i : Int) + 1) = ((i + 1 : Nat) : Int) := by unfold Fits at hn; unfold wrap64; omega
mutual
theorem caps_ev : ∀ (t : Tr) (n : Int), wfT t → Ev (fun k => spec_reCaps.f k t.f0 t.f1 t.f2 t.f3 t.f4 t.f5 t.f6 t.f7 n) (capsT t n)
  | ⟨op, fl, rs, m0, m1, cp, nm, ts⟩, n, hw => by
    rw [wfT] at hw
    rw [capsT]
    by_cases h13 : op = 13
    · rw [if_pos h13]
      by_cases hc : cp = n
      · rw [if_pos hc]
        exact Ev.step (f := fun k => spec_reCaps.j0 k (wrap64 (n + 1)) op fl rs m0 m1 cp nm ts) (fun k => by simp only [spec_reCaps.f, h13, hc, if_true])
          (Ev.step (f := fun k => spec_reCaps.l0 k (wrap64 (n + 1)) ts ts.length 0) (fun k => by simp only [spec_reCaps.j0]) (capsL_ev ts ts 0 _ rfl hw.2.1 hw.2.2))
      · rw [if_neg hc]
        exact Ev.step (f := fun _ => some (-1)) (fun k => by simp only [spec_reCaps.f, if_pos h13, if_neg hc]) (Ev.now _)
    · rw [if_neg h13]
      exact Ev.step (f := fun k => spec_reCaps.j0 k n op fl rs m0 m1 cp nm ts) (fun k => by simp only [spec_reCaps.f, if_neg h13])
          (Ev.step (f := fun k => spec_reCaps.l0 k n ts ts.length 0) (fun k => by simp only [spec_reCaps.j0]) (capsL_ev ts ts 0 _ rfl hw.2.1 hw.2.2))
theorem capsL_ev : ∀ (ts xs : List Tr) (i : Nat) (n : Int), xs.drop i = ts → Fits xs.length → wfL ts → Ev (fun k => spec_reCaps.l0 k n xs xs.length i) (capsL ts n)
  | [], xs, i, n, hd, hx, hw => by
    rw [capsL]
    have hge : ¬ ((i : Int) < (xs.length : Int)) := by have := List.drop_eq_nil_iff.1 hd; omega
    exact Ev.step (f := fun _ => some n) (fun k => by simp only [spec_reCaps.l0, if_neg hge]) (Ev.now _)
  | t :: ts, xs, i, n, hd, hx, hw => by
    rw [wfL] at hw
    rw [capsL]
    obtain ⟨hlt, hrd, hd'⟩ := rd_at hd
    have h1 : (i : Int) < (xs.length : Int) := by omega
    have h0 : (0 : Int) ≤ (i : Int) := by omega
    refine Ev.step (f := fun k => (spec_reCaps.f k t.f0 t.f1 t.f2 t.f3 t.f4 t.f5 t.f6 t.f7 n).bind fun r => if r < 0 then some (-1) else spec_reCaps.l0 k r xs xs.length ((i + 1 : Nat) : Int)) (fun k => by simp only [spec_reCaps.l0, if_pos h1, if_pos h0, hrd, wrap_i hlt hx]) ?_
    refine Ev.bind (f := fun k r => if r < 0 then some (-1) else spec_reCaps.l0 k r xs xs.length ((i + 1 : Nat) : Int)) (caps_ev t n hw.1) ?_
    by_cases hneg : capsT t n < 0
    · rw [if_pos hneg]
      exact Ev.congr (f := fun _ => some (-1)) (fun k => by simp only [if_pos hneg]) (Ev.now _)
    · rw [if_neg hneg]
      exact Ev.congr (f := fun k => spec_reCaps.l0 k (capsT t n) xs xs.length ((i + 1 : Nat) : Int)) (fun k => by simp only [if_neg hneg]) (capsL_ev ts xs (i + 1) _ hd' hx hw.2)
end
end Go.Proofs.YtholpemmakdglaaDoor.PFnMtLeastLen
namespace Go.Proofs.YtholpemmakdglaaDoor.PFnMtLeastLen
open Go.RowKit Go.Proofs.YtholpemmakdglaaDoorW.PrintWords Go.Proofs.YtholpemmakdglaaDoorW.PrintLast Go.Proofs.YtholpemmakdglaaDoorW.PrintMore
set_option linter.unusedVariables false
/-- Ranges: ascending, each behind the one ahead of it. -/
def clsF : Int → List Int → Bool
  | _, [] => true
  | _, [_] => false
  | last, a :: b :: l => decide (last < a) && decide (a ≤ b) && decide (b ≤ 1114111) && clsF b l
def chrF : List Int → Bool
  | [] => true
  | c :: l => decide (0 ≤ c) && decide (c ≤ 1114111) && chrF l
theorem clsF_odd : ∀ (l : List Int) (last : Int), clsF last l = true → l.length % 2 = 0
  | [], _, _ => rfl
  | [_], _, h => by simp [clsF] at h
  | a :: b :: l, last, h => by
    simp only [clsF, Bool.and_eq_true] at h
    have := clsF_odd l b h.2
    simp; omega
theorem rd_i {xs : List Int} {i : Nat} {a : Int} {l : List Int} (h : xs.drop i = a :: l) : i < xs.length ∧ rd xs i = a ∧ xs.drop (i + 1) = l := by
  have hlt : i < xs.length := by
    rcases Nat.lt_or_ge i xs.length with h' | h'
    · exact h'
    · rw [List.drop_of_length_le h'] at h; cases h
  rw [List.drop_eq_getElem_cons hlt] at h
  injection h with h1 h2
  refine ⟨hlt, ?_, h2⟩
  unfold rd
  rw [Int.toNat_natCast, List.getD_eq_getElem?_getD, List.getElem?_eq_getElem hlt, h1]
  rfl
theorem wrap_2 {i n : Nat} (h : i + 1 < n) (hn : Fits n) : wrap64 ((i : Int) + 2) = ((i + 2 : Nat) : Int) := by unfold Fits at hn; unfold wrap64; omega
theorem cls_ev : ∀ (l xs : List Int) (i : Nat) (last : Int), xs.drop i = l → l.length % 2 = 0 → Fits xs.length → Ev (fun k => spec_reClass.l0 k xs last i) (clsF last l)
  | [], xs, i, last, hd, he, hx => by
    have hge : ¬ ((i : Int) < (xs.length : Int)) := by have := List.drop_eq_nil_iff.1 hd; omega
    exact Ev.step (f := fun _ => some true) (fun k => by simp only [spec_reClass.l0, if_neg hge]) (Ev.now _)
  | [_], xs, i, last, hd, he, hx => by simp at he
  | a :: b :: l, xs, i, last, hd, he, hx => by
    obtain ⟨h1, ha, hd1⟩ := rd_i hd
    obtain ⟨h2, hb, hd2⟩ := rd_i hd1
    have g1 : (i : Int) < (xs.length : Int) := by omega
    have g0 : (0 : Int) ≤ (i : Int) := by omega
    have g2 : ((i + 1 : Nat) : Int) < (xs.length : Int) := by omega
    have g3 : (0 : Int) ≤ ((i + 1 : Nat) : Int) := by omega
    simp only [clsF]
    refine Ev.step (f := fun k => if a ≤ last then some false else if a > b then some false else if b > 1114111 then some false else spec_reClass.l0 k xs b ((i + 2 : Nat) : Int)) (fun k => by simp only [spec_reClass.l0, if_pos g1, if_pos g0, ha, wrap_i h1 hx, if_pos g2, if_pos g3, hb, wrap_2 h2 hx]) ?_
    by_cases c1 : a ≤ last
    · rw [show decide (last < a) = false by simp; omega]
      exact Ev.congr (f := fun _ => some false) (fun k => by simp only [if_pos c1]) (Ev.now _)
    · rw [show decide (last < a) = true by simp; omega]
      by_cases c2 : a > b
      · rw [show decide (a ≤ b) = false by simp; omega]
        exact Ev.congr (f := fun _ => some false) (fun k => by simp only [if_neg c1, if_pos c2]) (Ev.now _)
      · rw [show decide (a ≤ b) = true by simp; omega]
        by_cases c3 : b > 1114111
        · rw [show decide (b ≤ 1114111) = false by simp; omega]
          exact Ev.congr (f := fun _ => some false) (fun k => by simp only [if_neg c1, if_neg c2, if_pos c3]) (Ev.now _)
        · rw [show decide (b ≤ 1114111) = true by simp; omega]
          exact Ev.congr (f := fun k => spec_reClass.l0 k xs b ((i + 2 : Nat) : Int)) (fun k => by simp only [if_neg c1, if_neg c2, if_neg c3]) (cls_ev l xs (i + 2) b hd2 (by simp at he; omega) hx)
theorem pairs_ev : ∀ (l xs : List Int) (i : Nat) (last : Int), xs.drop i = l → Fits xs.length → Ev (fun k => impl_pairs.l0 k xs last i) (clsF last l)
  | [], xs, i, last, hd, hx => by
    have hge : ¬ ((i : Int) < (xs.length : Int)) := by have := List.drop_eq_nil_iff.1 hd; omega
    exact Ev.step (f := fun _ => some true) (fun k => by simp only [impl_pairs.l0, if_neg hge]) (Ev.now _)
  | [a], xs, i, last, hd, hx => by
    obtain ⟨h1, ha, hd1⟩ := rd_i hd
    have g1 : (i : Int) < (xs.length : Int) := by omega
    have g2 : ((i + 1 : Nat) : Int) = (xs.length : Int) := by have := List.drop_eq_nil_iff.1 hd1; omega
    exact Ev.step (f := fun _ => some false) (fun k => by simp only [impl_pairs.l0, if_pos g1, wrap_i h1 hx, if_pos g2]) (Ev.now _)
  | a :: b :: l, xs, i, last, hd, hx => by
    obtain ⟨h1, ha, hd1⟩ := rd_i hd
    obtain ⟨h2, hb, hd2⟩ := rd_i hd1
    have g1 : (i : Int) < (xs.length : Int) := by omega
    have g0 : (0 : Int) ≤ (i : Int) := by omega
    have g2 : ((i + 1 : Nat) : Int) < (xs.length : Int) := by omega
    have g4 : ¬ ((i + 1 : Nat) : Int) = (xs.length : Int) := by omega
    have g3 : (0 : Int) ≤ ((i + 1 : Nat) : Int) := by omega
    simp only [clsF]
    refine Ev.step (f := fun k => if a ≤ last then some false else if b < a then some false else if b > 1114111 then some false else impl_pairs.l0 k xs b ((i + 2 : Nat) : Int)) (fun k => by simp only [impl_pairs.l0, if_pos g1, if_pos g0, ha, wrap_i h1 hx, if_neg g4, if_pos g2, if_pos g3, hb, wrap_2 h2 hx]) ?_
    by_cases c1 : a ≤ last
    · rw [show decide (last < a) = false by simp; omega]
      exact Ev.congr (f := fun _ => some false) (fun k => by simp only [if_pos c1]) (Ev.now _)
    · rw [show decide (last < a) = true by simp; omega]
      by_cases c2 : b < a
      · rw [show decide (a ≤ b) = false by simp; omega]
        exact Ev.congr (f := fun _ => some false) (fun k => by simp only [if_neg c1, if_pos c2]) (Ev.now _)
      · rw [show decide (a ≤ b) = true by simp; omega]
        by_cases c3 : b > 1114111
        · rw [show decide (b ≤ 1114111) = false by simp; omega]
          exact Ev.congr (f := fun _ => some false) (fun k => by simp only [if_neg c1, if_neg c2, if_pos c3]) (Ev.now _)
        · rw [show decide (b ≤ 1114111) = true by simp; omega]
          exact Ev.congr (f := fun k => impl_pairs.l0 k xs b ((i + 2 : Nat) : Int)) (fun k => by simp only [if_neg c1, if_neg c2, if_neg c3]) (pairs_ev l xs (i + 2) b hd2 hx)
theorem chars_ev : ∀ (l xs : List Int) (i : Nat), xs.drop i = l → Fits xs.length → Ev (fun k => impl_characters.l0 k xs xs.length i) (chrF l)
  | [], xs, i, hd, hx => by
    have hge : ¬ ((i : Int) < (xs.length : Int)) := by have := List.drop_eq_nil_iff.1 hd; omega
    exact Ev.step (f := fun _ => some true) (fun k => by simp only [impl_characters.l0, if_neg hge]) (Ev.now _)
  | a :: l, xs, i, hd, hx => by
    obtain ⟨h1, ha, hd1⟩ := rd_i hd
    have g1 : (i : Int) < (xs.length : Int) := by omega
    have g0 : (0 : Int) ≤ (i : Int) := by omega
    simp only [chrF]
    refine Ev.step (f := fun k => if a < 0 then some false else if a > 1114111 then some false else impl_characters.l0 k xs xs.length ((i + 1 : Nat) : Int)) (fun k => by simp only [impl_characters.l0, if_pos g1, if_pos g0, ha, wrap_i h1 hx]) ?_
    by_cases c1 : a < 0
    · rw [show decide (0 ≤ a) = false by simp; omega]
      exact Ev.congr (f := fun _ => some false) (fun k => by simp only [if_pos c1]) (Ev.now _)
    · rw [show decide (0 ≤ a) = true by simp; omega]
      by_cases c2 : a > 1114111
      · rw [show decide (a ≤ 1114111) = false by simp; omega]
        exact Ev.congr (f := fun _ => some false) (fun k => by simp only [if_neg c1, if_pos c2]) (Ev.now _)
      · rw [show decide (a ≤ 1114111) = true by simp; omega]
        exact Ev.congr (f := fun k => impl_characters.l0 k xs xs.length ((i + 1 : Nat) : Int)) (fun k => by simp only [if_neg c1, if_neg c2]) (chars_ev l xs (i + 1) hd1 hx)
theorem nodeC_ev (op fl : Int) (rs : List Int) (m0 m1 cp : Int) (nm : ByteArray) (ts : List Tr) : ∀ (l : List Int) (i : Nat), rs.drop i = l → Fits rs.length → Ev (fun k => spec_reNode.l0 k rs rs.length i op fl rs m0 m1 cp nm ts) (chrF l && decide ((rs.length : Int) > 0))
  | [], i, hd, hx => by
    have hge : ¬ ((i : Int) < (rs.length : Int)) := by have := List.drop_eq_nil_iff.1 hd; omega
    exact Ev.step (f := fun _ => some (decide ((rs.length : Int) > 0))) (fun k => by simp only [spec_reNode.l0, if_neg hge]) (by simpa only [chrF, Bool.true_and] using Ev.now _)
  | a :: l, i, hd, hx => by
    obtain ⟨h1, ha, hd1⟩ := rd_i hd
    have g1 : (i : Int) < (rs.length : Int) := by omega
    have g0 : (0 : Int) ≤ (i : Int) := by omega
    simp only [chrF]
    refine Ev.step (f := fun k => if a < 0 then some false else if a > 1114111 then some false else spec_reNode.l0 k rs rs.length ((i + 1 : Nat) : Int) op fl rs m0 m1 cp nm ts) (fun k => by simp only [spec_reNode.l0, if_pos g1, if_pos g0, ha, wrap_i h1 hx]) ?_
    by_cases c1 : a < 0
    · rw [show decide (0 ≤ a) = false by simp; omega]
      exact Ev.congr (f := fun _ => some false) (fun k => by simp only [if_pos c1]) (Ev.now _)
    · rw [show decide (0 ≤ a) = true by simp; omega]
      by_cases c2 : a > 1114111
      · rw [show decide (a ≤ 1114111) = false by simp; omega]
        exact Ev.congr (f := fun _ => some false) (fun k => by simp only [if_neg c1, if_pos c2]) (Ev.now _)
      · rw [show decide (a ≤ 1114111) = true by simp; omega]
        exact Ev.congr (f := fun k => spec_reNode.l0 k rs rs.length ((i + 1 : Nat) : Int) op fl rs m0 m1 cp nm ts) (fun k => by simp only [if_neg c1, if_neg c2]) (nodeC_ev op fl rs m0 m1 cp nm ts l (i + 1) hd1 hx)
/-- How many parts an operator has at least and at most. -/
def arF (op : Int) : Int × Int :=
  if op = 13 ∨ op = 14 ∨ op = 15 ∨ op = 16 ∨ op = 17 then (1, 1) else if op = 18 then (0, -1) else if op = 19 then (1, -1)
  else if 1 ≤ op ∧ op ≤ 12 then (0, 0) else (1, 0)
theorem ar_ev (op : Int) : Ev (fun k => spec_reArity.f k op) (arF op) := by
  have key : ∀ b, (b = true ↔ (op = 13 ∨ op = 14 ∨ op = 15 ∨ op = 16 ∨ op = 17)) → Ev (fun k => spec_reArity.j0 k op op b) (arF op) := fun b hb => by
    refine Ev.step (f := fun _ => some (arF op)) (fun k => ?_) (Ev.now _)
    simp only [spec_reArity.j0, arF, hb]
    repeat' split
    all_goals first
      | rfl
      | omega
  unfold spec_reArity.f
  by_cases h1 : op = 13
  · simp only [if_pos h1]; exact key _ (by simp [h1])
  simp only [if_neg h1]
  by_cases h2 : op = 14
  · simp only [if_pos h2]; exact key _ (by simp [h2])
  simp only [if_neg h2]
  by_cases h3 : op = 15
  · simp only [if_pos h3]; exact key _ (by simp [h3])
  simp only [if_neg h3]
  by_cases h4 : op = 16
  · simp only [if_pos h4]; exact key _ (by simp [h4])
  simp only [if_neg h4]
  exact key _ (by simp [h1, h2, h3, h4])
/-- A node sound by itself, as the reference says. -/
def ndF (op : Int) (rs : List Int) (m0 m1 : Int) (sub : Nat) : Bool :=
  if (sub : Int) < (arF op).1 ∨ ((arF op).2 ≥ 0 ∧ (sub : Int) > (arF op).2) then false
  else if op = 3 then chrF rs && decide ((rs.length : Int) > 0) else if op = 4 then clsF (-1) rs
  else if op = 17 then decide (0 ≤ m0) && decide (m0 ≤ 1000) && (decide (m1 = -1) || (decide (m0 ≤ m1) && decide (m1 ≤ 1000))) else true
theorem nd_ev (op fl : Int) (rs : List Int) (m0 m1 cp : Int) (nm : ByteArray) (ts : List Tr) (hx : Fits rs.length) : Ev (fun k => spec_reNode.f k op fl rs m0 m1 cp nm ts) (ndF op rs m0 m1 ts.length) := by
  have key : ∀ b, Ev (fun k => spec_reNode.j0 k b op fl rs m0 m1 cp nm ts) (if b = true then false else if op = 3 then chrF rs && decide ((rs.length : Int) > 0) else if op = 4 then clsF (-1) rs
    else if op = 17 then decide (0 ≤ m0) && decide (m0 ≤ 1000) && (decide (m1 = -1) || (decide (m0 ≤ m1) && decide (m1 ≤ 1000))) else true) := fun b => by
    refine Ev.step (h := fun k => by rw [spec_reNode.j0]) ?_
    by_cases hb : b = true
    · simp only [if_pos hb]; exact Ev.now _
    simp only [if_neg hb]
    by_cases h3 : op = 3
    · simp only [if_pos h3]; exact nodeC_ev op fl rs m0 m1 cp nm ts rs 0 rfl hx
    simp only [if_neg h3]
    by_cases h4 : op = 4
    · simp only [if_pos h4]
      refine Ev.bind (g := fun k => spec_reClass.f k rs) (f := fun _ r => some r) (a := clsF (-1) rs) ?_ (Ev.now _)
      unfold spec_reClass.f
      by_cases he : (rs.length : Int) % 2 = 0
      · simp only [if_pos he]; exact cls_ev rs rs 0 (-1) rfl (by omega) hx
      · simp only [if_neg he]
        have : clsF (-1) rs = false := by
          cases h : clsF (-1) rs with
          | false => rfl
          | true => have := clsF_odd rs (-1) h; omega
        rw [this]; exact Ev.now _
    simp only [if_neg h4]
    by_cases h17 : op = 17
    · simp only [if_pos h17]
      refine Ev.congr (f := fun _ => some _) (fun k => ?_) (Ev.now _)
      repeat' split
      all_goals simp_all
      all_goals omega
    simp only [if_neg h17]
    exact Ev.now _
  unfold spec_reNode.f
  refine Ev.bind (g := fun k => spec_reArity.f k op) (f := fun k (r : Int × Int) => if (ts.length : Int) < r.1 then spec_reNode.j0 k true op fl rs m0 m1 cp nm ts else if r.2 ≥ 0 then spec_reNode.j0 k (decide ((ts.length : Int) > r.2)) op fl rs m0 m1 cp nm ts else spec_reNode.j0 k false op fl rs m0 m1 cp nm ts) (ar_ev op) ?_
  unfold ndF
  by_cases c1 : (ts.length : Int) < (arF op).1
  · simp only [if_pos c1, if_pos (Or.inl c1 : (ts.length : Int) < (arF op).1 ∨ ((arF op).2 ≥ 0 ∧ (ts.length : Int) > (arF op).2))]
    exact key true
  · simp only [if_neg c1]
    by_cases c2 : (arF op).2 ≥ 0
    · simp only [if_pos c2]
      by_cases c3 : (ts.length : Int) > (arF op).2
      · rw [if_pos (Or.inr ⟨c2, c3⟩)]
        have := key (decide ((ts.length : Int) > (arF op).2))
        rwa [if_pos (by simpa using c3)] at this
      · rw [if_neg (by rintro (h | h); exact c1 h; exact c3 h.2)]
        have := key (decide ((ts.length : Int) > (arF op).2))
        rwa [if_neg (by simpa using c3)] at this
    · simp only [if_neg c2]
      rw [if_neg (by rintro (h | h); exact c1 h; exact c2 h.1)]
      exact key false
end Go.Proofs.YtholpemmakdglaaDoor.PFnMtLeastLen
namespace Go.Proofs.YtholpemmakdglaaDoor.PFnMtLeastLen
open Go.RowKit Go.Proofs.YtholpemmakdglaaDoorW.PrintWords Go.Proofs.YtholpemmakdglaaDoorW.PrintLast Go.Proofs.YtholpemmakdglaaDoorW.PrintMore
set_option linter.unusedVariables false
set_option linter.unusedSimpArgs false
mutual
def sdT : Tr → Int → Bool
  | ⟨op, _, rs, m0, m1, _, _, ts⟩, d => if d < 0 then false else if ndF op rs m0 m1 ts.length = true then sdL ts d else false
def sdL : List Tr → Int → Bool
  | [], _ => true
  | t :: ts, d => if sdT t (wrap64 (d - 1)) = true then sdL ts d else false
end
mutual
theorem sd_ev : ∀ (t : Tr) (d : Int), wfT t → Ev (fun k => spec_reSounds.f k t.f0 t.f1 t.f2 t.f3 t.f4 t.f5 t.f6 t.f7 d) (sdT t d)
  | ⟨op, fl, rs, m0, m1, cp, nm, ts⟩, d, hw => by
    rw [wfT] at hw
    rw [sdT]
    have hj : ∀ b, Ev (fun k => spec_reSounds.j0 k d b op fl rs m0 m1 cp nm ts) (if b = true then false else sdL ts d) := fun b => by
      refine Ev.step (h := fun k => by rw [spec_reSounds.j0]) ?_
      by_cases hb : b = true
      · simp only [if_pos hb]; exact Ev.now _
      · simp only [if_neg hb]; exact sdL_ev ts ts 0 d rfl hw.2.1 hw.2.2
    refine Ev.step (h := fun k => by rw [spec_reSounds.f]) ?_
    by_cases hd : d < 0
    · simp only [if_pos hd]
      have := hj true
      rwa [if_pos rfl] at this
    · simp only [if_neg hd]
      refine Ev.bind (g := fun k => spec_reNode.f k op fl rs m0 m1 cp nm ts) (f := fun k r => spec_reSounds.j0 k d (!r) op fl rs m0 m1 cp nm ts) (nd_ev op fl rs m0 m1 cp nm ts hw.1) ?_
      have := hj (!ndF op rs m0 m1 ts.length)
      cases hn : ndF op rs m0 m1 ts.length <;> rw [hn] at this <;> simpa using this
theorem sdL_ev : ∀ (ts xs : List Tr) (i : Nat) (d : Int), xs.drop i = ts → Fits xs.length → wfL ts → Ev (fun k => spec_reSounds.l0 k d xs xs.length i) (sdL ts d)
  | [], xs, i, d, hd, hx, hw => by
    rw [sdL]
    have hge : ¬ ((i : Int) < (xs.length : Int)) := by have := List.drop_eq_nil_iff.1 hd; omega
    exact Ev.step (f := fun _ => some true) (fun k => by simp only [spec_reSounds.l0, if_neg hge]) (Ev.now _)
  | t :: ts, xs, i, d, hd, hx, hw => by
    rw [wfL] at hw
    rw [sdL]
    obtain ⟨hlt, hrd, hd'⟩ := rd_at hd
    have h1 : (i : Int) < (xs.length : Int) := by omega
    have h0 : (0 : Int) ≤ (i : Int) := by omega
    refine Ev.step (f := fun k => (spec_reSounds.f k t.f0 t.f1 t.f2 t.f3 t.f4 t.f5 t.f6 t.f7 (wrap64 (d - 1))).bind fun r => if r = true then spec_reSounds.l0 k d xs xs.length ((i + 1 : Nat) : Int) else some false) (fun k => by simp only [spec_reSounds.l0, if_pos h1, if_pos h0, hrd, wrap_i hlt hx]) ?_
    refine Ev.bind (f := fun k r => if r = true then spec_reSounds.l0 k d xs xs.length ((i + 1 : Nat) : Int) else some false) (sd_ev t (wrap64 (d - 1)) hw.1) ?_
    by_cases hs : sdT t (wrap64 (d - 1)) = true
    · rw [if_pos hs]
      exact Ev.congr (f := fun k => spec_reSounds.l0 k d xs xs.length ((i + 1 : Nat) : Int)) (fun k => by simp only [if_pos hs]) (sdL_ev ts xs (i + 1) d hd' hx hw.2)
    · rw [if_neg hs]
      exact Ev.congr (f := fun _ => some false) (fun k => by simp only [if_neg hs]) (Ev.now _)
end
mutual
theorem sz_ev : ∀ (t : Tr) (m : Int), wfT t → Ev (fun k => spec_ReSize.f k t.f0 t.f1 t.f2 t.f3 t.f4 t.f5 t.f6 t.f7 m) (sizeT t m)
  | ⟨op, fl, rs, m0, m1, cp, nm, ts⟩, m, hw => by
    rw [wfT] at hw
    rw [sizeT]
    refine Ev.step (h := fun k => by rw [spec_ReSize.f]) ?_
    exact szL_ev op fl rs m0 m1 cp nm ts ts 0 m 0 rfl hw.2.1 hw.2.2
theorem szL_ev (op fl : Int) (rs : List Int) (m0 m1 cp : Int) (nm : ByteArray) : ∀ (ts xs : List Tr) (i : Nat) (m acc : Int), xs.drop i = ts → Fits xs.length → wfL ts → Ev (fun k => spec_ReSize.l0 k m acc xs xs.length i op fl rs m0 m1 cp nm xs) (sizeE op rs.length m0 m1 xs.length (sizeL ts m acc) m)
  | [], xs, i, m, acc, hd, hx, hw => by
    rw [sizeL]
    have hge : ¬ ((i : Int) < (xs.length : Int)) := by have := List.drop_eq_nil_iff.1 hd; omega
    refine Ev.step (f := fun _ => some _) (fun k => ?_) (Ev.now _)
    simp only [spec_ReSize.l0, if_neg hge, sizeE]
    repeat' split
    all_goals rfl
  | t :: ts, xs, i, m, acc, hd, hx, hw => by
    rw [wfL] at hw
    rw [sizeL]
    obtain ⟨hlt, hrd, hd'⟩ := rd_at hd
    have h1 : (i : Int) < (xs.length : Int) := by omega
    have h0 : (0 : Int) ≤ (i : Int) := by omega
    refine Ev.step (f := fun k => (spec_ReSize.f k t.f0 t.f1 t.f2 t.f3 t.f4 t.f5 t.f6 t.f7 m).bind fun r => spec_ReSize.l0 k m (mn (wrap64 (acc + r)) (wrap64 (m + 1))) xs xs.length ((i + 1 : Nat) : Int) op fl rs m0 m1 cp nm xs) (fun k => by simp only [spec_ReSize.l0, if_pos h1, if_pos h0, hrd, wrap_i hlt hx]) ?_
    exact Ev.bind (f := fun k r => spec_ReSize.l0 k m (mn (wrap64 (acc + r)) (wrap64 (m + 1))) xs xs.length ((i + 1 : Nat) : Int) op fl rs m0 m1 cp nm xs) (sz_ev t m hw.1) (szL_ev op fl rs m0 m1 cp nm ts xs (i + 1) m _ hd' hx hw.2)
end
/-- A node that the thin package takes. -/
def sndF (op : Int) (rs : List Int) (m0 m1 cp : Int) (sub : Nat) : Bool :=
  if op = 1 ∨ op = 2 ∨ (5 ≤ op ∧ op ≤ 12) then (sub : Int) == 0
  else if op = 3 then decide ((rs.length : Int) ≠ 0) && chrF rs && ((sub : Int) == 0)
  else if op = 4 then clsF (-1) rs && ((sub : Int) == 0)
  else if op = 13 then decide (1 ≤ cp) && decide (cp ≤ 1000) && ((sub : Int) == 1)
  else if op = 14 ∨ op = 15 ∨ op = 16 then (sub : Int) == 1
  else if op = 17 then decide (0 ≤ m0) && decide (-1 ≤ m1) && (decide (m1 < 0) || decide (m0 ≤ m1)) && decide (m0 ≤ 1000) && decide (m1 ≤ 1000) && ((sub : Int) == 1)
  else if op = 18 then true else if op = 19 then decide ((sub : Int) > 0) else false
theorem snd_ev (op fl : Int) (rs : List Int) (m0 m1 cp : Int) (nm : ByteArray) (ts : List Tr) (hx : Fits rs.length) : Ev (fun k => impl_sound.f k op fl rs m0 m1 cp nm ts) (sndF op rs m0 m1 cp ts.length) := by
  have j1 : ∀ b, (b = true ↔ (op = 14 ∨ op = 15 ∨ op = 16)) → (¬ (op = 1 ∨ op = 2 ∨ (5 ≤ op ∧ op ≤ 12)) ∧ op ≠ 3 ∧ op ≠ 4 ∧ op ≠ 13) → Ev (fun k => impl_sound.j1 k op b op fl rs m0 m1 cp nm ts) (sndF op rs m0 m1 cp ts.length) := fun b hb ho => by
    obtain ⟨h1, h2, h3, h4⟩ := ho
    refine Ev.step (f := fun _ => some _) (fun k => ?_) (Ev.now _)
    unfold sndF
    rw [impl_sound.j1, if_neg h1, if_neg h2, if_neg h3, if_neg h4]
    simp only [hb]
    by_cases c1 : op = 14 ∨ op = 15 ∨ op = 16
    · rw [if_pos c1, if_pos c1]
    rw [if_neg c1, if_neg c1]
    by_cases c2 : op = 17
    · rw [if_pos c2, if_pos c2]
      repeat' split
      all_goals simp_all
      all_goals omega
    rw [if_neg c2, if_neg c2]
    by_cases c3 : op = 18
    · rw [if_pos c3, if_pos c3]
    rw [if_neg c3, if_neg c3]
    by_cases c4 : op = 19
    · rw [if_pos c4, if_pos c4]
    rw [if_neg c4, if_neg c4]
  have j0 : ∀ b, (b = true ↔ (op = 1 ∨ op = 2 ∨ (5 ≤ op ∧ op ≤ 12))) → Ev (fun k => impl_sound.j0 k 0 op b op fl rs m0 m1 cp nm ts) (sndF op rs m0 m1 cp ts.length) := fun b hb => by
    refine Ev.step (h := fun k => by rw [impl_sound.j0]) ?_
    by_cases c0 : op = 1 ∨ op = 2 ∨ (5 ≤ op ∧ op ≤ 12)
    · simp only [if_pos (hb.2 c0)]
      unfold sndF; rw [if_pos c0]; exact Ev.now _
    simp only [if_neg (fun h => c0 (hb.1 h))]
    by_cases c3 : op = 3
    · simp only [if_pos c3]
      unfold sndF; rw [if_neg c0, if_pos c3]
      by_cases hz : (rs.length : Int) = 0
      · simp only [if_pos hz]
        rw [show decide ((rs.length : Int) ≠ 0) = false by simpa using hz]
        exact Ev.now _
      · simp only [if_neg hz]
        rw [show decide ((rs.length : Int) ≠ 0) = true by simpa using hz, Bool.true_and]
        refine Ev.bind (g := fun k => impl_characters.f k rs) (f := fun _ (r : Bool) => if r = true then some ((ts.length : Int) == 0) else some false) (a := chrF rs) (chars_ev rs rs 0 rfl hx) ?_
        cases chrF rs
        · simpa using Ev.now _
        · simpa using Ev.now _
    simp only [if_neg c3]
    by_cases c4 : op = 4
    · simp only [if_pos c4]
      unfold sndF; rw [if_neg c0, if_neg c3, if_pos c4]
      refine Ev.bind (g := fun k => impl_pairs.f k rs) (f := fun _ (r : Bool) => if r = true then some ((ts.length : Int) == 0) else some false) (a := clsF (-1) rs) (pairs_ev rs rs 0 (-1) rfl hx) ?_
      cases clsF (-1) rs
      · simpa using Ev.now _
      · simpa using Ev.now _
    simp only [if_neg c4]
    by_cases c13 : op = 13
    · simp only [if_pos c13]
      refine Ev.congr (f := fun _ => some _) (fun k => ?_) (Ev.now _)
      unfold sndF; rw [if_neg c0, if_neg c3, if_neg c4, if_pos c13]
      repeat' split
      all_goals simp_all
      all_goals omega
    simp only [if_neg c13]
    by_cases c14 : op = 14
    · simp only [if_pos c14]; exact j1 _ (by simp [c14]) ⟨c0, c3, c4, c13⟩
    simp only [if_neg c14]
    by_cases c15 : op = 15
    · simp only [if_pos c15]; exact j1 _ (by simp [c15]) ⟨c0, c3, c4, c13⟩
    simp only [if_neg c15]
    exact j1 _ (by simp [c14, c15]) ⟨c0, c3, c4, c13⟩
  unfold impl_sound.f
  by_cases h1 : op = 1
  · simp only [if_pos h1]; exact j0 _ (by simp [h1])
  simp only [if_neg h1]
  by_cases h2 : op = 2
  · simp only [if_pos h2]; exact j0 _ (by simp [h2])
  simp only [if_neg h2]
  by_cases h5 : op = 5
  · simp only [if_pos h5]; exact j0 _ (by simp [h5])
  simp only [if_neg h5]
  by_cases h6 : op = 6
  · simp only [if_pos h6]; exact j0 _ (by simp [h6])
  simp only [if_neg h6]
  by_cases h7 : op = 7
  · simp only [if_pos h7]; exact j0 _ (by simp [h7])
  simp only [if_neg h7]
  by_cases h8 : op = 8
  · simp only [if_pos h8]; exact j0 _ (by simp [h8])
  simp only [if_neg h8]
  by_cases h9 : op = 9
  · simp only [if_pos h9]; exact j0 _ (by simp [h9])
  simp only [if_neg h9]
  by_cases h10 : op = 10
  · simp only [if_pos h10]; exact j0 _ (by simp [h10])
  simp only [if_neg h10]
  by_cases h11 : op = 11
  · simp only [if_pos h11]; exact j0 _ (by simp [h11])
  simp only [if_neg h11]
  exact j0 _ (by simp; omega)
end Go.Proofs.YtholpemmakdglaaDoor.PFnMtLeastLen
namespace Go.Proofs.YtholpemmakdglaaDoor.PFnMtLeastLen
open Go.RowKit Go.Proofs.YtholpemmakdglaaDoorW.PrintWords Go.Proofs.YtholpemmakdglaaDoorW.PrintLast Go.Proofs.YtholpemmakdglaaDoorW.PrintMore
set_option linter.unusedVariables false
/-- The bytes of a character: U+FFFD one. -/
def widF (c : Int) : Int := if c = 65533 then 1 else if c ≤ 127 then 1 else if c ≤ 2047 then 2 else if c ≤ 65535 then 3 else 4
def widL : List Int → Int → Int
  | [], a => a
  | c :: l, a => widL l (wrap64 (a + widF c))
mutual
def llT : Tr → Int
  | ⟨op, _, rs, m0, _, _, _, ts⟩ =>
    if op = 3 then widL rs 0 else if op = 4 ∨ op = 5 ∨ op = 6 then 1 else if op = 13 ∨ op = 15 then llH ts
    else if op = 17 then wrap64 (m0 * llH ts) else if op = 18 then llS ts 0 else if op = 19 then llM ts (llH ts) else 0
def llH : List Tr → Int
  | [] => 0
  | t :: _ => llT t
def llS : List Tr → Int → Int
  | [], a => a
  | t :: ts, a => llS ts (wrap64 (a + llT t))
def llM : List Tr → Int → Int
  | [], a => a
  | t :: ts, a => llM ts (if llT t < a then llT t else a)
end
theorem llM_head (t : Tr) (ts : List Tr) : llM (t :: ts) (llH (t :: ts)) = llM ts (llT t) := by
  rw [llM, llH, if_neg (by omega)]
/-- No surrogates among the characters. -/
def chOk (c : Int) : Prop := 0 ≤ c ∧ c ≤ 1114111 ∧ (c < 55296 ∨ 57343 < c)
mutual
def usT : Tr → Prop
  | ⟨op, _, rs, _, _, _, _, ts⟩ => (op = 3 → ∀ c ∈ rs, chOk c) ∧ usL ts
def usL : List Tr → Prop
  | [] => True
  | t :: ts => usT t ∧ usL ts
end
theorem valid_ev {c : Int} : Ev (fun k => utf8_ValidRune.f k c) (decide (0 ≤ c ∧ c < 55296) || decide (57343 < c ∧ c ≤ 1114111)) := by
  unfold utf8_ValidRune.f
  by_cases h0 : 0 ≤ c
  · simp only [if_pos h0]
    by_cases h1 : c < 55296
    · have e : (decide (0 ≤ c ∧ c < 55296) || decide (57343 < c ∧ c ≤ 1114111)) = true := by simp [h0, h1]
      rw [e]
      exact Ev.step (f := fun _ => some true) (fun k => by simp [utf8_ValidRune.j0, h1]) (Ev.now _)
    · have hb : decide (c < 55296) = false := by simpa using h1
      refine Ev.step (f := fun _ => some (decide (0 ≤ c ∧ c < 55296) || decide (57343 < c ∧ c ≤ 1114111))) (fun k => ?_) (Ev.now _)
      rw [hb, utf8_ValidRune.j0, if_neg Bool.false_ne_true]
      by_cases h2 : 57343 < c
      · rw [if_pos h2]
        by_cases h3 : c ≤ 1114111
        · rw [if_pos h3]; simp [h2, h3]
        · rw [if_neg h3]; simp; omega
      · rw [if_neg h2]; simp; omega
  · simp only [if_neg h0]
    refine Ev.step (f := fun _ => some (decide (0 ≤ c ∧ c < 55296) || decide (57343 < c ∧ c ≤ 1114111))) (fun k => ?_) (Ev.now _)
    rw [utf8_ValidRune.j0, if_neg Bool.false_ne_true]
    have h2 : ¬ 57343 < c := by omega
    rw [if_neg h2]; simp; omega
theorem width_ev {c : Int} (h : chOk c) (h1 : c ≠ 65533) : Ev (fun k => utf8_RuneLen.f k c) (widF c) := by
  obtain ⟨a0, a1, a2⟩ := h
  unfold utf8_RuneLen.f widF
  simp only [if_neg (show ¬ c < 0 by omega), if_neg h1]
  by_cases h2 : c ≤ 127
  · simp only [if_pos h2]; exact Ev.now _
  simp only [if_neg h2]
  by_cases h3 : c ≤ 2047
  · simp only [if_pos h3]; exact Ev.now _
  simp only [if_neg h3]
  have j0 : ∀ b, b = false → Ev (fun k => utf8_RuneLen.j0 k c b) (if c ≤ 65535 then 3 else 4) := fun b hb => by
    subst hb
    refine Ev.step (f := fun _ => some _) (fun k => ?_) (Ev.now _)
    simp only [utf8_RuneLen.j0, if_neg Bool.false_ne_true]
    by_cases h4 : c ≤ 65535
    · rw [if_pos h4, if_pos h4]
    · rw [if_neg h4, if_pos a1, if_neg h4]
  by_cases h5 : 55296 ≤ c
  · simp only [if_pos h5]; exact j0 _ (by simp; omega)
  · simp only [if_neg h5]; exact j0 _ rfl
end Go.Proofs.YtholpemmakdglaaDoor.PFnMtLeastLen
