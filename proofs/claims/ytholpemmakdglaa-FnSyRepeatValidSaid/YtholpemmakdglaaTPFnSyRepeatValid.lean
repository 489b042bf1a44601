/- The reference's functions of a syntax tree, without rounds. -/
import Derived.Test.YtholpemmakdglaaK35FnSyRepeatValid
import Derived.Test.YtholpemmakdglaaPFnSyRepeatValidx
namespace Go.Proofs.Ytholpemmakdglaa.PFnSyRepeatValid
open Go.RowKit Go.Proofs.YtholpemmakdglaaW.PrintWords Go.Proofs.YtholpemmakdglaaW.PrintLast Go.Proofs.YtholpemmakdglaaW.PrintMore
set_option linter.unusedVariables false
abbrev Tr := S35
/-- Every list in a tree is short enough to be counted. -/
def Fits (n : Nat) : Prop := n ≤ 9223372036854775807
mutual
def wfT : Tr → Prop
  | ⟨_, _, rs, _, _, _, _, ts⟩ => Fits rs.length ∧ Fits ts.length ∧ wfL ts
def wfL : List Tr → Prop
  | [] => True
  | t :: ts => wfT t ∧ wfL ts
end
theorem wfL_of : ∀ ts : List Tr, (∀ (j : Nat) (p : Tr), ts[j]? = some p → wfT p) → wfL ts
  | [], _ => by simp [wfL]
  | t :: ts, h => by
    rw [wfL]
    exact ⟨h 0 t rfl, wfL_of ts fun j p hj => h (j + 1) p (by simpa using hj)⟩
theorem k_wf : ∀ (t : Tr) {w : World} {cs : List Value}, k35.K w t cs → wfT t
  | ⟨op, fl, rs, mn, mx, cp, nm, ts⟩, w, cs, h => by
    obtain ⟨A2, c2, A7, c7, _, _, h2, _, h7⟩ := k35_open h
    rw [wfT]
    refine ⟨h2.2.1, h7.2.1, wfL_of ts fun j p hj => ?_⟩
    have hlt : j < ts.length := by
      rcases Nat.lt_or_ge j ts.length with h | h
      · exact h
      · rw [List.getElem?_eq_none h] at hj; cases hj
    obtain ⟨ad, _, hc⟩ := h7.2.2 (by simp only; omega)
    obtain ⟨c, _, hK, _⟩ := hc j p hj
    have hm : p ∈ ts := List.mem_of_getElem? hj
    have hsz := List.sizeOf_lt_of_mem hm
    exact k_wf p hK
termination_by t => SizeOf.sizeOf t
decreasing_by
  simp_wf
  omega
mutual
/-- The groups numbered in the order in which they open, from n on; -1 if one has another number. -/
def capsT : Tr → Int → Int
  | ⟨op, _, _, _, _, cp, _, ts⟩, n => if op = 13 then (if cp = n then capsL ts (wrap64 (n + 1)) else -1) else capsL ts n
def capsL : List Tr → Int → Int
  | [], n => n
  | t :: ts, n => if capsT t n < 0 then -1 else capsL ts (capsT t n)
end
def sizeE (op : Int) (len : Nat) (m0 m1 : Int) (sub : Nat) (acc m : Int) : Int :=
  if op = 17 then mn (wrap64 (mn (wrap64 (wrap64 (acc + 1) * mx (mx (wrap64 (m0 + 1)) m1) 1)) (wrap64 (m + 1)) + 2)) (wrap64 (m + 1))
  else if op = 3 then mn (wrap64 ((len : Int) + 2)) (wrap64 (m + 1))
  else if op = 19 then mn (wrap64 (wrap64 (acc + (sub : Int)) + 2)) (wrap64 (m + 1))
  else mn (wrap64 (acc + 2)) (wrap64 (m + 1))
mutual
/-- The sum over a tree, capped behind m. -/
def sizeT : Tr → Int → Int
  | ⟨op, _, rs, m0, m1, _, _, ts⟩, m => sizeE op rs.length m0 m1 ts.length (sizeL ts m 0) m
def sizeL : List Tr → Int → Int → Int
  | [], m, acc => acc
  | t :: ts, m, acc => sizeL ts m (mn (wrap64 (acc + sizeT t m)) (wrap64 (m + 1)))
end
def cntT (op m0 m1 : Int) : Int := if op = 17 then (if m1 < 0 then mx m0 1 else m1) else 1
mutual
/-- The greatest product of counts. -/
def copT : Tr → Int
  | ⟨op, _, _, m0, m1, _, _, ts⟩ => if cntT op m0 m1 = 0 then 1 else mn (wrap64 (cntT op m0 m1 * copL ts 1)) 1001
def copL : List Tr → Int → Int
  | [], acc => acc
  | t :: ts, acc => copL ts (mx acc (copT t))
end
theorem rd_at {xs : List Tr} {i : Nat} {t : Tr} {ts : List Tr} (h : xs.drop i = t :: ts) : i < xs.length ∧ rd_T35 xs i = t ∧ xs.drop (i + 1) = ts := by
  have hlt : i < xs.length := by
    rcases Nat.lt_or_ge i xs.length with h' | h'
    · exact h'
    · rw [List.drop_of_length_le h'] at h; cases h
  rw [List.drop_eq_getElem_cons hlt] at h
  injection h with h1 h2
  refine ⟨hlt, ?_, h2⟩
  unfold rd_T35
  rw [Int.toNat_natCast, List.getD_eq_getElem?_getD, List.getElem?_eq_getElem hlt, h1]
  rfl
theorem wrap_i {i n : Nat} (h : i < n) (hn : Fits n) : wrap64 ((i : Int) + 1) = ((i + 1 : Nat) : Int) := by unfold Fits at hn; unfold wrap64; omega
mutual
theorem caps_ev : ∀ (t : Tr) (n : Int), wfT t → Ev (fun k => spec_reCaps.f k t.f0 t.f1 t.f2 t.f3 t.f4 t.f5 t.f6 t.f7 n) (capsT t n)
  | ⟨op, fl, rs, m0, m1, cp, nm, ts⟩, n, hw => by
    rw [wfT] at hw
    rw [capsT]
    by_cases h13 : op = 13
    · rw [if_pos h13]
      by_cases hc : cp = n
      · rw [if_pos hc]
        exact Ev.step (f := fun k => spec_reCaps.j0 k (wrap64 (n + 1)) op fl rs m0 m1 cp nm ts) (fun k => by simp only [spec_reCaps.f, h13, hc, if_true])
          (Ev.step (f := fun k => spec_reCaps.l0 k (wrap64 (n + 1)) ts ts.length 0) (fun k => by simp only [spec_reCaps.j0]) (capsL_ev ts ts 0 _ rfl hw.2.1 hw.2.2))
      · rw [if_neg hc]
        exact Ev.step (f := fun _ => some (-1)) (fun k => by simp only [spec_reCaps.f, if_pos h13, if_neg hc]) (Ev.now _)
    · rw [if_neg h13]
      exact Ev.step (f := fun k => spec_reCaps.j0 k n op fl rs m0 m1 cp nm ts) (fun k => by simp only [spec_reCaps.f, if_neg h13])
          (Ev.step (f := fun k => spec_reCaps.l0 k n ts ts.length 0) (fun k => by simp only [spec_reCaps.j0]) (capsL_ev ts ts 0 _ rfl hw.2.1 hw.2.2))
theorem capsL_ev : ∀ (ts xs : List Tr) (i : Nat) (n : Int), xs.drop i = ts → Fits xs.length → wfL ts → Ev (fun k => spec_reCaps.l0 k n xs xs.length i) (capsL ts n)
  | [], xs, i, n, hd, hx, hw => by
    rw [capsL]
    have hge : ¬ ((i : Int) < (xs.length : Int)) := by have := List.drop_eq_nil_iff.1 hd; omega
    exact Ev.step (f := fun _ => some n) (fun k => by simp only [spec_reCaps.l0, if_neg hge]) (Ev.now _)
  | t :: ts, xs, i, n, hd, hx, hw => by
    rw [wfL] at hw
    rw [capsL]
    obtain ⟨hlt, hrd, hd'⟩ := rd_at hd
    have h1 : (i : Int) < (xs.length : Int) := by omega
    have h0 : (0 : Int) ≤ (i : Int) := by omega
    refine Ev.step (f := fun k => (spec_reCaps.f k t.f0 t.f1 t.f2 t.f3 t.f4 t.f5 t.f6 t.f7 n).bind fun r => if r < 0 then some (-1) else spec_reCaps.l0 k r xs xs.length ((i + 1 : Nat) : Int)) (fun k => by simp only [spec_reCaps.l0, if_pos h1, if_pos h0, hrd, wrap_i hlt hx]) ?_
    refine Ev.bind (f := fun k r => if r < 0 then some (-1) else spec_reCaps.l0 k r xs xs.length ((i + 1 : Nat) : Int)) (caps_ev t n hw.1) ?_
    by_cases hneg : capsT t n < 0
    · rw [if_pos hneg]
      exact Ev.congr (f := fun _ => some (-1)) (fun k => by simp only [if_pos hneg]) (Ev.now _)
    · rw [if_neg hneg]
      exact Ev.congr (f := fun k => spec_reCaps.l0 k (capsT t n) xs xs.length ((i + 1 : Nat) : Int)) (fun k => by simp only [if_neg hneg]) (capsL_ev ts xs (i + 1) _ hd' hx hw.2)
end
end Go.Proofs.Ytholpemmakdglaa.PFnSyRepeatValid
