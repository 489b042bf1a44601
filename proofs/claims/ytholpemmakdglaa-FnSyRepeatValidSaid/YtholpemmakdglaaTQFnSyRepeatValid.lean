/- The reference's checks of a node, and those of the thin package, without rounds. -/
import Derived.Test.YtholpemmakdglaaTPFnSyRepeatValid
namespace Go.Proofs.Ytholpemmakdglaa.PFnSyRepeatValid
open Go.RowKit Go.Proofs.YtholpemmakdglaaW.PrintWords Go.Proofs.YtholpemmakdglaaW.PrintLast Go.Proofs.YtholpemmakdglaaW.PrintMore
set_option linter.unusedVariables false
/-- Ranges: ascending, each behind the one ahead of it. -/
def clsF : Int → List Int → Bool
  | _, [] => true
  | _, [_] => false
  | last, a :: b :: l => decide (last < a) && decide (a ≤ b) && decide (b ≤ 1114111) && clsF b l
def chrF : List Int → Bool
  | [] => true
  | c :: l => decide (0 ≤ c) && decide (c ≤ 1114111) && chrF l
theorem clsF_odd : ∀ (l : List Int) (last : Int), clsF last l = true → l.length % 2 = 0
  | [], _, _ => rfl
  | [_], _, h => by simp [clsF] at h
  | a :: b :: l, last, h => by
    simp only [clsF, Bool.and_eq_true] at h
    have := clsF_odd l b h.2
    simp; omega
theorem rd_i {xs : List Int} {i : Nat} {a : Int} {l : List Int} (h : xs.drop i = a :: l) : i < xs.length ∧ rd xs i = a ∧ xs.drop (i + 1) = l := by
  have hlt : i < xs.length := by
    rcases Nat.lt_or_ge i xs.length with h' | h'
    · exact h'
    · rw [List.drop_of_length_le h'] at h; cases h
  rw [List.drop_eq_getElem_cons hlt] at h
  injection h with h1 h2
  refine ⟨hlt, ?_, h2⟩
  unfold rd
  rw [Int.toNat_natCast, List.getD_eq_getElem?_getD, List.getElem?_eq_getElem hlt, h1]
  rfl
theorem wrap_2 {i n : Nat} (h : i + 1 < n) (hn : Fits n) : wrap64 ((i : Int) + 2) = ((i + 2 : Nat) : Int) := by unfold Fits at hn; unfold wrap64; omega
theorem cls_ev : ∀ (l xs : List Int) (i : Nat) (last : Int), xs.drop i = l → l.length % 2 = 0 → Fits xs.length → Ev (fun k => spec_reClass.l0 k xs last i) (clsF last l)
  | [], xs, i, last, hd, he, hx => by
    have hge : ¬ ((i : Int) < (xs.length : Int)) := by have := List.drop_eq_nil_iff.1 hd; omega
    exact Ev.step (f := fun _ => some true) (fun k => by simp only [spec_reClass.l0, if_neg hge]) (Ev.now _)
  | [_], xs, i, last, hd, he, hx => by simp at he
  | a :: b :: l, xs, i, last, hd, he, hx => by
    obtain ⟨h1, ha, hd1⟩ := rd_i hd
    obtain ⟨h2, hb, hd2⟩ := rd_i hd1
    have g1 : (i : Int) < (xs.length : Int) := by omega
    have g0 : (0 : Int) ≤ (i : Int) := by omega
    have g2 : ((i + 1 : Nat) : Int) < (xs.length : Int) := by omega
    have g3 : (0 : Int) ≤ ((i + 1 : Nat) : Int) := by omega
    simp only [clsF]
    refine Ev.step (f := fun k => if a ≤ last then some false else if a > b then some false else if b > 1114111 then some false else spec_reClass.l0 k xs b ((i + 2 : Nat) : Int)) (fun k => by simp only [spec_reClass.l0, if_pos g1, if_pos g0, ha, wrap_i h1 hx, if_pos g2, if_pos g3, hb, wrap_2 h2 hx]) ?_
    by_cases c1 : a ≤ last
    · rw [show decide (last < a) = false by simp; omega]
      exact Ev.congr (f := fun _ => some false) (fun k => by simp only [if_pos c1]) (Ev.now _)
    · rw [show decide (last < a) = true by simp; omega]
      by_cases c2 : a > b
      · rw [show decide (a ≤ b) = false by simp; omega]
        exact Ev.congr (f := fun _ => some false) (fun k => by simp only [if_neg c1, if_pos c2]) (Ev.now _)
      · rw [show decide (a ≤ b) = true by simp; omega]
        by_cases c3 : b > 1114111
        · rw [show decide (b ≤ 1114111) = false by simp; omega]
          exact Ev.congr (f := fun _ => some false) (fun k => by simp only [if_neg c1, if_neg c2, if_pos c3]) (Ev.now _)
        · rw [show decide (b ≤ 1114111) = true by simp; omega]
          exact Ev.congr (f := fun k => spec_reClass.l0 k xs b ((i + 2 : Nat) : Int)) (fun k => by simp only [if_neg c1, if_neg c2, if_neg c3]) (cls_ev l xs (i + 2) b hd2 (by simp at he; omega) hx)
theorem pairs_ev : ∀ (l xs : List Int) (i : Nat) (last : Int), xs.drop i = l → Fits xs.length → Ev (fun k => impl_pairs.l0 k xs last i) (clsF last l)
  | [], xs, i, last, hd, hx => by
    have hge : ¬ ((i : Int) < (xs.length : Int)) := by have := List.drop_eq_nil_iff.1 hd; omega
    exact Ev.step (f := fun _ => some true) (fun k => by simp only [impl_pairs.l0, if_neg hge]) (Ev.now _)
  | [a], xs, i, last, hd, hx => by
    obtain ⟨h1, ha, hd1⟩ := rd_i hd
    have g1 : (i : Int) < (xs.length : Int) := by omega
    have g2 : ((i + 1 : Nat) : Int) = (xs.length : Int) := by have := List.drop_eq_nil_iff.1 hd1; omega
    exact Ev.step (f := fun _ => some false) (fun k => by simp only [impl_pairs.l0, if_pos g1, wrap_i h1 hx, if_pos g2]) (Ev.now _)
  | a :: b :: l, xs, i, last, hd, hx => by
    obtain ⟨h1, ha, hd1⟩ := rd_i hd
    obtain ⟨h2, hb, hd2⟩ := rd_i hd1
    have g1 : (i : Int) < (xs.length : Int) := by omega
    have g0 : (0 : Int) ≤ (i : Int) := by omega
    have g2 : ((i + 1 : Nat) : Int) < (xs.length : Int) := by omega
    have g4 : ¬ ((i + 1 : Nat) : Int) = (xs.length : Int) := by omega
    have g3 : (0 : Int) ≤ ((i + 1 : Nat) : Int) := by omega
    simp only [clsF]
    refine Ev.step (f := fun k => if a ≤ last then some false else if b < a then some false else if b > 1114111 then some false else impl_pairs.l0 k xs b ((i + 2 : Nat) : Int)) (fun k => by simp only [impl_pairs.l0, if_pos g1, if_pos g0, ha, wrap_i h1 hx, if_neg g4, if_pos g2, if_pos g3, hb, wrap_2 h2 hx]) ?_
    by_cases c1 : a ≤ last
    · rw [show decide (last < a) = false by simp; omega]
      exact Ev.congr (f := fun _ => some false) (fun k => by simp only [if_pos c1]) (Ev.now _)
    · rw [show decide (last < a) = true by simp; omega]
      by_cases c2 : b < a
      · rw [show decide (a ≤ b) = false by simp; omega]
        exact Ev.congr (f := fun _ => some false) (fun k => by simp only [if_neg c1, if_pos c2]) (Ev.now _)
      · rw [show decide (a ≤ b) = true by simp; omega]
        by_cases c3 : b > 1114111
        · rw [show decide (b ≤ 1114111) = false by simp; omega]
          exact Ev.congr (f := fun _ => some false) (fun k => by simp only [if_neg c1, if_neg c2, if_pos c3]) (Ev.now _)
        · rw [show decide (b ≤ 1114111) = true by simp; omega]
          exact Ev.congr (f := fun k => impl_pairs.l0 k xs b ((i + 2 : Nat) : Int)) (fun k => by simp only [if_neg c1, if_neg c2, if_neg c3]) (pairs_ev l xs (i + 2) b hd2 hx)
theorem chars_ev : ∀ (l xs : List Int) (i : Nat), xs.drop i = l → Fits xs.length → Ev (fun k => impl_characters.l0 k xs xs.length i) (chrF l)
  | [], xs, i, hd, hx => by
    have hge : ¬ ((i : Int) < (xs.length : Int)) := by have := List.drop_eq_nil_iff.1 hd; omega
    exact Ev.step (f := fun _ => some true) (fun k => by simp only [impl_characters.l0, if_neg hge]) (Ev.now _)
  | a :: l, xs, i, hd, hx => by
    obtain ⟨h1, ha, hd1⟩ := rd_i hd
    have g1 : (i : Int) < (xs.length : Int) := by omega
    have g0 : (0 : Int) ≤ (i : Int) := by omega
    simp only [chrF]
    refine Ev.step (f := fun k => if a < 0 then some false else if a > 1114111 then some false else impl_characters.l0 k xs xs.length ((i + 1 : Nat) : Int)) (fun k => by simp only [impl_characters.l0, if_pos g1, if_pos g0, ha, wrap_i h1 hx]) ?_
    by_cases c1 : a < 0
    · rw [show decide (0 ≤ a) = false by simp; omega]
      exact Ev.congr (f := fun _ => some false) (fun k => by simp only [if_pos c1]) (Ev.now _)
    · rw [show decide (0 ≤ a) = true by simp; omega]
      by_cases c2 : a > 1114111
      · rw [show decide (a ≤ 1114111) = false by simp; omega]
        exact Ev.congr (f := fun _ => some false) (fun k => by simp only [if_neg c1, if_pos c2]) (Ev.now _)
      · rw [show decide (a ≤ 1114111) = true by simp; omega]
        exact Ev.congr (f := fun k => impl_characters.l0 k xs xs.length ((i + 1 : Nat) : Int)) (fun k => by simp only [if_neg c1, if_neg c2]) (chars_ev l xs (i + 1) hd1 hx)
theorem nodeC_ev (op fl : Int) (rs : List Int) (m0 m1 cp : Int) (nm : ByteArray) (ts : List Tr) : ∀ (l : List Int) (i : Nat), rs.drop i = l → Fits rs.length → Ev (fun k => spec_reNode.l0 k rs rs.length i op fl rs m0 m1 cp nm ts) (chrF l && decide ((rs.length : Int) > 0))
  | [], i, hd, hx => by
    have hge : ¬ ((i : Int) < (rs.length : Int)) := by have := List.drop_eq_nil_iff.1 hd; omega
    exact Ev.step (f := fun _ => some (decide ((rs.length : Int) > 0))) (fun k => by simp only [spec_reNode.l0, if_neg hge]) (by simpa only [chrF, Bool.true_and] using Ev.now _)
  | a :: l, i, hd, hx => by
    obtain ⟨h1, ha, hd1⟩ := rd_i hd
    have g1 : (i : Int) < (rs.length : Int) := by omega
    have g0 : (0 : Int) ≤ (i : Int) := by omega
    simp only [chrF]
    refine Ev.step (f := fun k => if a < 0 then some false else if a > 1114111 then some false else spec_reNode.l0 k rs rs.length ((i + 1 : Nat) : Int) op fl rs m0 m1 cp nm ts) (fun k => by simp only [spec_reNode.l0, if_pos g1, if_pos g0, ha, wrap_i h1 hx]) ?_
    by_cases c1 : a < 0
    · rw [show decide (0 ≤ a) = false by simp; omega]
      exact Ev.congr (f := fun _ => some false) (fun k => by simp only [if_pos c1]) (Ev.now _)
    · rw [show decide (0 ≤ a) = true by simp; omega]
      by_cases c2 : a > 1114111
      · rw [show decide (a ≤ 1114111) = false by simp; omega]
        exact Ev.congr (f := fun _ => some false) (fun k => by simp only [if_neg c1, if_pos c2]) (Ev.now _)
      · rw [show decide (a ≤ 1114111) = true by simp; omega]
        exact Ev.congr (f := fun k => spec_reNode.l0 k rs rs.length ((i + 1 : Nat) : Int) op fl rs m0 m1 cp nm ts) (fun k => by simp only [if_neg c1, if_neg c2]) (nodeC_ev op fl rs m0 m1 cp nm ts l (i + 1) hd1 hx)
/-- How many parts an operator has at least and at most. -/
def arF (op : Int) : Int × Int :=
  if op = 13 ∨ op = 14 ∨ op = 15 ∨ op = 16 ∨ op = 17 then (1, 1) else if op = 18 then (0, -1) else if op = 19 then (1, -1)
  else if 1 ≤ op ∧ op ≤ 12 then (0, 0) else (1, 0)
theorem ar_ev (op : Int) : Ev (fun k => spec_reArity.f k op) (arF op) := by
  have key : ∀ b, (b = true ↔ (op = 13 ∨ op = 14 ∨ op = 15 ∨ op = 16 ∨ op = 17)) → Ev (fun k => spec_reArity.j0 k op op b) (arF op) := fun b hb => by
    refine Ev.step (f := fun _ => some (arF op)) (fun k => ?_) (Ev.now _)
    simp only [spec_reArity.j0, arF, hb]
    repeat' split
    all_goals first
      | rfl
      | omega
  unfold spec_reArity.f
  by_cases h1 : op = 13
  · simp only [if_pos h1]; exact key _ (by simp [h1])
  simp only [if_neg h1]
  by_cases h2 : op = 14
  · simp only [if_pos h2]; exact key _ (by simp [h2])
  simp only [if_neg h2]
  by_cases h3 : op = 15
  · simp only [if_pos h3]; exact key _ (by simp [h3])
  simp only [if_neg h3]
  by_cases h4 : op = 16
  · simp only [if_pos h4]; exact key _ (by simp [h4])
  simp only [if_neg h4]
  exact key _ (by simp [h1, h2, h3, h4])
/-- A node sound by itself, as the reference says. -/
def ndF (op : Int) (rs : List Int) (m0 m1 : Int) (sub : Nat) : Bool :=
  if (sub : Int) < (arF op).1 ∨ ((arF op).2 ≥ 0 ∧ (sub : Int) > (arF op).2) then false
  else if op = 3 then chrF rs && decide ((rs.length : Int) > 0) else if op = 4 then clsF (-1) rs
  else if op = 17 then decide (0 ≤ m0) && decide (m0 ≤ 1000) && (decide (m1 = -1) || (decide (m0 ≤ m1) && decide (m1 ≤ 1000))) else true
theorem nd_ev (op fl : Int) (rs : List Int) (m0 m1 cp : Int) (nm : ByteArray) (ts : List Tr) (hx : Fits rs.length) : Ev (fun k => spec_reNode.f k op fl rs m0 m1 cp nm ts) (ndF op rs m0 m1 ts.length) := by
  have key : ∀ b, Ev (fun k => spec_reNode.j0 k b op fl rs m0 m1 cp nm ts) (if b = true then false else if op = 3 then chrF rs && decide ((rs.length : Int) > 0) else if op = 4 then clsF (-1) rs
    else if op = 17 then decide (0 ≤ m0) && decide (m0 ≤ 1000) && (decide (m1 = -1) || (decide (m0 ≤ m1) && decide (m1 ≤ 1000))) else true) := fun b => by
    refine Ev.step (h := fun k => by rw [spec_reNode.j0]) ?_
    by_cases hb : b = true
    · simp only [if_pos hb]; exact Ev.now _
    simp only [if_neg hb]
    by_cases h3 : op = 3
    · simp only [if_pos h3]; exact nodeC_ev op fl rs m0 m1 cp nm ts rs 0 rfl hx
    simp only [if_neg h3]
    by_cases h4 : op = 4
    · simp only [if_pos h4]
      refine Ev.bind (g := fun k => spec_reClass.f k rs) (f := fun _ r => some r) (a := clsF (-1) rs) ?_ (Ev.now _)
      unfold spec_reClass.f
      by_cases he : (rs.length : Int) % 2 = 0
      · simp only [if_pos he]; exact cls_ev rs rs 0 (-1) rfl (by omega) hx
      · simp only [if_neg he]
        have : clsF (-1) rs = false := by
          cases h : clsF (-1) rs with
          | false => rfl
          | true => have := clsF_odd rs (-1) h; omega
        rw [this]; exact Ev.now _
    simp only [if_neg h4]
    by_cases h17 : op = 17
    · simp only [if_pos h17]
      refine Ev.congr (f := fun _ => some _) (fun k => ?_) (Ev.now _)
      repeat' split
      all_goals simp_all
      all_goals omega
    simp only [if_neg h17]
    exact Ev.now _
  unfold spec_reNode.f
  refine Ev.bind (g := fun k => spec_reArity.f k op) (f := fun k (r : Int × Int) => if (ts.length : Int) < r.1 then spec_reNode.j0 k true op fl rs m0 m1 cp nm ts else if r.2 ≥ 0 then spec_reNode.j0 k (decide ((ts.length : Int) > r.2)) op fl rs m0 m1 cp nm ts else spec_reNode.j0 k false op fl rs m0 m1 cp nm ts) (ar_ev op) ?_
  unfold ndF
  by_cases c1 : (ts.length : Int) < (arF op).1
  · simp only [if_pos c1, if_pos (Or.inl c1 : (ts.length : Int) < (arF op).1 ∨ ((arF op).2 ≥ 0 ∧ (ts.length : Int) > (arF op).2))]
    exact key true
  · simp only [if_neg c1]
    by_cases c2 : (arF op).2 ≥ 0
    · simp only [if_pos c2]
      by_cases c3 : (ts.length : Int) > (arF op).2
      · rw [if_pos (Or.inr ⟨c2, c3⟩)]
        have := key (decide ((ts.length : Int) > (arF op).2))
        rwa [if_pos (by simpa using c3)] at this
      · rw [if_neg (by rintro (h | h); exact c1 h; exact c3 h.2)]
        have := key (decide ((ts.length : Int) > (arF op).2))
        rwa [if_neg (by simpa using c3)] at this
    · simp only [if_neg c2]
      rw [if_neg (by rintro (h | h); exact c1 h; exact c2 h.1)]
      exact key false
end Go.Proofs.Ytholpemmakdglaa.PFnSyRepeatValid
