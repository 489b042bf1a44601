/- The reference's checks of a tree, and the thin package's check of a node, without rounds. -/
import Derived.Test.YtholpemmakdglaaTQFnSyRepeatValid
namespace Go.Proofs.Ytholpemmakdglaa.PFnSyRepeatValid
open Go.RowKit Go.Proofs.YtholpemmakdglaaW.PrintWords Go.Proofs.YtholpemmakdglaaW.PrintLast Go.Proofs.YtholpemmakdglaaW.PrintMore
set_option linter.unusedVariables false
set_option linter.unusedSimpArgs false
mutual
def sdT : Tr → Int → Bool
  | ⟨op, _, rs, m0, m1, _, _, ts⟩, d => if d < 0 then false else if ndF op rs m0 m1 ts.length = true then sdL ts d else false
def sdL : List Tr → Int → Bool
  | [], _ => true
  | t :: ts, d => if sdT t (wrap64 (d - 1)) = true then sdL ts d else false
end
mutual
theorem sd_ev : ∀ (t : Tr) (d : Int), wfT t → Ev (fun k => spec_reSounds.f k t.f0 t.f1 t.f2 t.f3 t.f4 t.f5 t.f6 t.f7 d) (sdT t d)
  | ⟨op, fl, rs, m0, m1, cp, nm, ts⟩, d, hw => by
    rw [wfT] at hw
    rw [sdT]
    have hj : ∀ b, Ev (fun k => spec_reSounds.j0 k d b op fl rs m0 m1 cp nm ts) (if b = true then false else sdL ts d) := fun b => by
      refine Ev.step (h := fun k => by rw [spec_reSounds.j0]) ?_
      by_cases hb : b = true
      · simp only [if_pos hb]; exact Ev.now _
      · simp only [if_neg hb]; exact sdL_ev ts ts 0 d rfl hw.2.1 hw.2.2
    refine Ev.step (h := fun k => by rw [spec_reSounds.f]) ?_
    by_cases hd : d < 0
    · simp only [if_pos hd]
      have := hj true
      rwa [if_pos rfl] at this
    · simp only [if_neg hd]
      refine Ev.bind (g := fun k => spec_reNode.f k op fl rs m0 m1 cp nm ts) (f := fun k r => spec_reSounds.j0 k d (!r) op fl rs m0 m1 cp nm ts) (nd_ev op fl rs m0 m1 cp nm ts hw.1) ?_
      have := hj (!ndF op rs m0 m1 ts.length)
      cases hn : ndF op rs m0 m1 ts.length <;> rw [hn] at this <;> simpa using this
theorem sdL_ev : ∀ (ts xs : List Tr) (i : Nat) (d : Int), xs.drop i = ts → Fits xs.length → wfL ts → Ev (fun k => spec_reSounds.l0 k d xs xs.length i) (sdL ts d)
  | [], xs, i, d, hd, hx, hw => by
    rw [sdL]
    have hge : ¬ ((i : Int) < (xs.length : Int)) := by have := List.drop_eq_nil_iff.1 hd; omega
    exact Ev.step (f := fun _ => some true) (fun k => by simp only [spec_reSounds.l0, if_neg hge]) (Ev.now _)
  | t :: ts, xs, i, d, hd, hx, hw => by
    rw [wfL] at hw
    rw [sdL]
    obtain ⟨hlt, hrd, hd'⟩ := rd_at hd
    have h1 : (i : Int) < (xs.length : Int) := by omega
    have h0 : (0 : Int) ≤ (i : Int) := by omega
    refine Ev.step (f := fun k => (spec_reSounds.f k t.f0 t.f1 t.f2 t.f3 t.f4 t.f5 t.f6 t.f7 (wrap64 (d - 1))).bind fun r => if r = true then spec_reSounds.l0 k d xs xs.length ((i + 1 : Nat) : Int) else some false) (fun k => by simp only [spec_reSounds.l0, if_pos h1, if_pos h0, hrd, wrap_i hlt hx]) ?_
    refine Ev.bind (f := fun k r => if r = true then spec_reSounds.l0 k d xs xs.length ((i + 1 : Nat) : Int) else some false) (sd_ev t (wrap64 (d - 1)) hw.1) ?_
    by_cases hs : sdT t (wrap64 (d - 1)) = true
    · rw [if_pos hs]
      exact Ev.congr (f := fun k => spec_reSounds.l0 k d xs xs.length ((i + 1 : Nat) : Int)) (fun k => by simp only [if_pos hs]) (sdL_ev ts xs (i + 1) d hd' hx hw.2)
    · rw [if_neg hs]
      exact Ev.congr (f := fun _ => some false) (fun k => by simp only [if_neg hs]) (Ev.now _)
end
mutual
theorem sz_ev : ∀ (t : Tr) (m : Int), wfT t → Ev (fun k => spec_ReSize.f k t.f0 t.f1 t.f2 t.f3 t.f4 t.f5 t.f6 t.f7 m) (sizeT t m)
  | ⟨op, fl, rs, m0, m1, cp, nm, ts⟩, m, hw => by
    rw [wfT] at hw
    rw [sizeT]
    refine Ev.step (h := fun k => by rw [spec_ReSize.f]) ?_
    exact szL_ev op fl rs m0 m1 cp nm ts ts 0 m 0 rfl hw.2.1 hw.2.2
theorem szL_ev (op fl : Int) (rs : List Int) (m0 m1 cp : Int) (nm : ByteArray) : ∀ (ts xs : List Tr) (i : Nat) (m acc : Int), xs.drop i = ts → Fits xs.length → wfL ts → Ev (fun k => spec_ReSize.l0 k m acc xs xs.length i op fl rs m0 m1 cp nm xs) (sizeE op rs.length m0 m1 xs.length (sizeL ts m acc) m)
  | [], xs, i, m, acc, hd, hx, hw => by
    rw [sizeL]
    have hge : ¬ ((i : Int) < (xs.length : Int)) := by have := List.drop_eq_nil_iff.1 hd; omega
    refine Ev.step (f := fun _ => some _) (fun k => ?_) (Ev.now _)
    simp only [spec_ReSize.l0, if_neg hge, sizeE]
    repeat' split
    all_goals rfl
  | t :: ts, xs, i, m, acc, hd, hx, hw => by
    rw [wfL] at hw
    rw [sizeL]
    obtain ⟨hlt, hrd, hd'⟩ := rd_at hd
    have h1 : (i : Int) < (xs.length : Int) := by omega
    have h0 : (0 : Int) ≤ (i : Int) := by omega
    refine Ev.step (f := fun k => (spec_ReSize.f k t.f0 t.f1 t.f2 t.f3 t.f4 t.f5 t.f6 t.f7 m).bind fun r => spec_ReSize.l0 k m (mn (wrap64 (acc + r)) (wrap64 (m + 1))) xs xs.length ((i + 1 : Nat) : Int) op fl rs m0 m1 cp nm xs) (fun k => by simp only [spec_ReSize.l0, if_pos h1, if_pos h0, hrd, wrap_i hlt hx]) ?_
    exact Ev.bind (f := fun k r => spec_ReSize.l0 k m (mn (wrap64 (acc + r)) (wrap64 (m + 1))) xs xs.length ((i + 1 : Nat) : Int) op fl rs m0 m1 cp nm xs) (sz_ev t m hw.1) (szL_ev op fl rs m0 m1 cp nm ts xs (i + 1) m _ hd' hx hw.2)
end
mutual
theorem cop_ev : ∀ (t : Tr), wfT t → Ev (fun k => spec_SyCopies.f k t.f0 t.f1 t.f2 t.f3 t.f4 t.f5 t.f6 t.f7) (copT t)
  | ⟨op, fl, rs, m0, m1, cp, nm, ts⟩, hw => by
    rw [wfT] at hw
    rw [copT]
    have hj : ∀ c, Ev (fun k => spec_SyCopies.j0 k c op fl rs m0 m1 cp nm ts) (if c = 0 then 1 else mn (wrap64 (c * copL ts 1)) 1001) := fun c => by
      refine Ev.step (h := fun k => by rw [spec_SyCopies.j0]) ?_
      by_cases hc : c = 0
      · simp only [if_pos hc]; exact Ev.now _
      · simp only [if_neg hc]; exact copL_ev c ts ts 0 1 rfl hw.2.1 hw.2.2
    refine Ev.step (h := fun k => by rw [spec_SyCopies.f]) ?_
    unfold cntT
    by_cases h17 : op = 17
    · simp only [if_pos h17]
      by_cases hm : m1 < 0
      · simp only [if_pos hm]; exact hj _
      · simp only [if_neg hm]; exact hj _
    · simp only [if_neg h17]; exact hj 1
theorem copL_ev (c : Int) : ∀ (ts xs : List Tr) (i : Nat) (acc : Int), xs.drop i = ts → Fits xs.length → wfL ts → Ev (fun k => spec_SyCopies.l0 k c acc xs xs.length i) (mn (wrap64 (c * copL ts acc)) 1001)
  | [], xs, i, acc, hd, hx, hw => by
    rw [copL]
    have hge : ¬ ((i : Int) < (xs.length : Int)) := by have := List.drop_eq_nil_iff.1 hd; omega
    exact Ev.step (f := fun _ => some _) (fun k => by simp only [spec_SyCopies.l0, if_neg hge]) (Ev.now _)
  | t :: ts, xs, i, acc, hd, hx, hw => by
    rw [wfL] at hw
    rw [copL]
    obtain ⟨hlt, hrd, hd'⟩ := rd_at hd
    have h1 : (i : Int) < (xs.length : Int) := by omega
    have h0 : (0 : Int) ≤ (i : Int) := by omega
    refine Ev.step (f := fun k => (spec_SyCopies.f k t.f0 t.f1 t.f2 t.f3 t.f4 t.f5 t.f6 t.f7).bind fun r => spec_SyCopies.l0 k c (mx acc r) xs xs.length ((i + 1 : Nat) : Int)) (fun k => by simp only [spec_SyCopies.l0, if_pos h1, if_pos h0, hrd, wrap_i hlt hx]) ?_
    exact Ev.bind (f := fun k r => spec_SyCopies.l0 k c (mx acc r) xs xs.length ((i + 1 : Nat) : Int)) (cop_ev t hw.1) (copL_ev c ts xs (i + 1) _ hd' hx hw.2)
end
/-- A tree of which the statements speak. -/
def syT (t : Tr) : Bool := sdT t 100 && decide (capsT t 1 > 0) && decide (sizeT t 2000 ≤ 2000)
theorem sy_ev (t : Tr) (hw : wfT t) : Ev (fun k => laws_syTree.f k t.f0 t.f1 t.f2 t.f3 t.f4 t.f5 t.f6 t.f7) (syT t) := by
  unfold laws_syTree.f spec_ReSound.f syT
  refine Ev.bind (f := fun _ r => some r) ?_ (Ev.now _)
  refine Ev.bind (f := fun k (r : Bool) => if r = true then (spec_reCaps.f k t.f0 t.f1 t.f2 t.f3 t.f4 t.f5 t.f6 t.f7 1).bind fun c => if c > 0 then (spec_ReSize.f k t.f0 t.f1 t.f2 t.f3 t.f4 t.f5 t.f6 t.f7 2000).bind fun z => some (decide (z ≤ 2000)) else some false else some false) (sd_ev t 100 hw) ?_
  by_cases h1 : sdT t 100 = true
  · simp only [if_pos h1, h1, Bool.true_and]
    refine Ev.bind (f := fun k c => if c > 0 then (spec_ReSize.f k t.f0 t.f1 t.f2 t.f3 t.f4 t.f5 t.f6 t.f7 2000).bind fun z => some (decide (z ≤ 2000)) else some false) (caps_ev t 1 hw) ?_
    by_cases h2 : capsT t 1 > 0
    · simp only [if_pos h2, h2, decide_true, Bool.true_and]
      exact Ev.bind (f := fun _ z => some (decide (z ≤ 2000))) (sz_ev t 2000 hw) (Ev.now _)
    · simp only [if_neg h2, h2, decide_false, Bool.false_and]
      exact Ev.now _
  · have h1' : sdT t 100 = false := by simpa using h1
    simp only [if_neg h1, h1', Bool.false_and]
    exact Ev.now _
/-- A node that the thin package takes. -/
def sndF (op : Int) (rs : List Int) (m0 m1 cp : Int) (sub : Nat) : Bool :=
  if op = 1 ∨ op = 2 ∨ (5 ≤ op ∧ op ≤ 12) then (sub : Int) == 0
  else if op = 3 then decide ((rs.length : Int) ≠ 0) && chrF rs && ((sub : Int) == 0)
  else if op = 4 then clsF (-1) rs && ((sub : Int) == 0)
  else if op = 13 then decide (1 ≤ cp) && decide (cp ≤ 1000) && ((sub : Int) == 1)
  else if op = 14 ∨ op = 15 ∨ op = 16 then (sub : Int) == 1
  else if op = 17 then decide (0 ≤ m0) && decide (-1 ≤ m1) && (decide (m1 < 0) || decide (m0 ≤ m1)) && decide (m0 ≤ 1000) && decide (m1 ≤ 1000) && ((sub : Int) == 1)
  else if op = 18 then true else if op = 19 then decide ((sub : Int) > 0) else false
theorem snd_ev (op fl : Int) (rs : List Int) (m0 m1 cp : Int) (nm : ByteArray) (ts : List Tr) (hx : Fits rs.length) : Ev (fun k => impl_sound.f k op fl rs m0 m1 cp nm ts) (sndF op rs m0 m1 cp ts.length) := by
  have j1 : ∀ b, (b = true ↔ (op = 14 ∨ op = 15 ∨ op = 16)) → (¬ (op = 1 ∨ op = 2 ∨ (5 ≤ op ∧ op ≤ 12)) ∧ op ≠ 3 ∧ op ≠ 4 ∧ op ≠ 13) → Ev (fun k => impl_sound.j1 k op b op fl rs m0 m1 cp nm ts) (sndF op rs m0 m1 cp ts.length) := fun b hb ho => by
    obtain ⟨h1, h2, h3, h4⟩ := ho
    refine Ev.step (f := fun _ => some _) (fun k => ?_) (Ev.now _)
    unfold sndF
    rw [impl_sound.j1, if_neg h1, if_neg h2, if_neg h3, if_neg h4]
    simp only [hb]
    by_cases c1 : op = 14 ∨ op = 15 ∨ op = 16
    · rw [if_pos c1, if_pos c1]
    rw [if_neg c1, if_neg c1]
    by_cases c2 : op = 17
    · rw [if_pos c2, if_pos c2]
      repeat' split
      all_goals simp_all
      all_goals omega
    rw [if_neg c2, if_neg c2]
    by_cases c3 : op = 18
    · rw [if_pos c3, if_pos c3]
    rw [if_neg c3, if_neg c3]
    by_cases c4 : op = 19
    · rw [if_pos c4, if_pos c4]
    rw [if_neg c4, if_neg c4]
  have j0 : ∀ b, (b = true ↔ (op = 1 ∨ op = 2 ∨ (5 ≤ op ∧ op ≤ 12))) → Ev (fun k => impl_sound.j0 k 0 op b op fl rs m0 m1 cp nm ts) (sndF op rs m0 m1 cp ts.length) := fun b hb => by
    refine Ev.step (h := fun k => by rw [impl_sound.j0]) ?_
    by_cases c0 : op = 1 ∨ op = 2 ∨ (5 ≤ op ∧ op ≤ 12)
    · simp only [if_pos (hb.2 c0)]
      unfold sndF; rw [if_pos c0]; exact Ev.now _
    simp only [if_neg (fun h => c0 (hb.1 h))]
    by_cases c3 : op = 3
    · simp only [if_pos c3]
      unfold sndF; rw [if_neg c0, if_pos c3]
      by_cases hz : (rs.length : Int) = 0
      · simp only [if_pos hz]
        rw [show decide ((rs.length : Int) ≠ 0) = false by simpa using hz]
        exact Ev.now _
      · simp only [if_neg hz]
        rw [show decide ((rs.length : Int) ≠ 0) = true by simpa using hz, Bool.true_and]
        refine Ev.bind (g := fun k => impl_characters.f k rs) (f := fun _ (r : Bool) => if r = true then some ((ts.length : Int) == 0) else some false) (a := chrF rs) (chars_ev rs rs 0 rfl hx) ?_
        cases chrF rs
        · simpa using Ev.now _
        · simpa using Ev.now _
    simp only [if_neg c3]
    by_cases c4 : op = 4
    · simp only [if_pos c4]
      unfold sndF; rw [if_neg c0, if_neg c3, if_pos c4]
      refine Ev.bind (g := fun k => impl_pairs.f k rs) (f := fun _ (r : Bool) => if r = true then some ((ts.length : Int) == 0) else some false) (a := clsF (-1) rs) (pairs_ev rs rs 0 (-1) rfl hx) ?_
      cases clsF (-1) rs
      · simpa using Ev.now _
      · simpa using Ev.now _
    simp only [if_neg c4]
    by_cases c13 : op = 13
    · simp only [if_pos c13]
      refine Ev.congr (f := fun _ => some _) (fun k => ?_) (Ev.now _)
      unfold sndF; rw [if_neg c0, if_neg c3, if_neg c4, if_pos c13]
      repeat' split
      all_goals simp_all
      all_goals omega
    simp only [if_neg c13]
    by_cases c14 : op = 14
    · simp only [if_pos c14]; exact j1 _ (by simp [c14]) ⟨c0, c3, c4, c13⟩
    simp only [if_neg c14]
    by_cases c15 : op = 15
    · simp only [if_pos c15]; exact j1 _ (by simp [c15]) ⟨c0, c3, c4, c13⟩
    simp only [if_neg c15]
    exact j1 _ (by simp [c14, c15]) ⟨c0, c3, c4, c13⟩
  unfold impl_sound.f
  by_cases h1 : op = 1
  · simp only [if_pos h1]; exact j0 _ (by simp [h1])
  simp only [if_neg h1]
  by_cases h2 : op = 2
  · simp only [if_pos h2]; exact j0 _ (by simp [h2])
  simp only [if_neg h2]
  by_cases h5 : op = 5
  · simp only [if_pos h5]; exact j0 _ (by simp [h5])
  simp only [if_neg h5]
  by_cases h6 : op = 6
  · simp only [if_pos h6]; exact j0 _ (by simp [h6])
  simp only [if_neg h6]
  by_cases h7 : op = 7
  · simp only [if_pos h7]; exact j0 _ (by simp [h7])
  simp only [if_neg h7]
  by_cases h8 : op = 8
  · simp only [if_pos h8]; exact j0 _ (by simp [h8])
  simp only [if_neg h8]
  by_cases h9 : op = 9
  · simp only [if_pos h9]; exact j0 _ (by simp [h9])
  simp only [if_neg h9]
  by_cases h10 : op = 10
  · simp only [if_pos h10]; exact j0 _ (by simp [h10])
  simp only [if_neg h10]
  by_cases h11 : op = 11
  · simp only [if_pos h11]; exact j0 _ (by simp [h11])
  simp only [if_neg h11]
  exact j0 _ (by simp; omega)
end Go.Proofs.Ytholpemmakdglaa.PFnSyRepeatValid
