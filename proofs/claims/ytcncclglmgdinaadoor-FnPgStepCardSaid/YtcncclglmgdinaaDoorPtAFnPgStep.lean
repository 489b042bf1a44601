/- What the reference's check of a program says, without rounds. What a sound program is: each instruction fits, there is no circle, what the ways need. A sound program is taken by the thin package; the text at its head is told. What a sound program is, for the threads: each instruction fits, there is no circle. The package's lazy flag: it tells of a condition what the reference's bits tell. -/
import Derived.Test.YtcncclglmgdinaaDoorPsTFnPgStep
import Derived.Test.YtcncclglmgdinaaDoorPsA2FnPgStep
import Derived.Test.YtcncclglmgdinaaDoorPsA1FnPgStep
namespace Go.Proofs.YtcncclglmgdinaaDoor.Ps
open Go.RowKit Mem Go.Proofs.YtcncclglmgdinaaDoor.Fold Go.Proofs.YtcncclglmgdinaaDoor.PFnPgStep Go.Proofs.YtcncclglmgdinaaDoorW.PrintWords Go.Proofs.YtcncclglmgdinaaDoorW.PrintLast Go.Proofs.YtcncclglmgdinaaDoorW.PrintMore
set_option linter.unusedVariables false
set_option linter.unusedSimpArgs false
def Fits (n : Nat) : Prop := n ≤ 9223372036854775807
theorem wrap_i {i n : Nat} (h : i < n) (hn : Fits n) : wrap64 ((i : Int) + 1) = ((i + 1 : Nat) : Int) := by unfold Fits at hn; unfold wrap64; omega
/-- Ranges: ascending, each behind the one ahead of it. -/
def clsF : Int → List Int → Bool
 | _, [] => true
 | _, [_] => false
 | last, a :: b :: l => decide (last < a) && decide (a ≤ b) && decide (b ≤ 1114111) && clsF b l
def chrF : List Int → Bool
 | [] => true
 | c :: l => decide (0 ≤ c) && decide (c ≤ 1114111) && chrF l
theorem clsF_odd : ∀ (l : List Int) (last : Int), clsF last l = true → l.length % 2 = 0
 | [], _, _ => rfl
 | [_], _, h => by simp [clsF] at h
 | a :: b :: l, last, h => by
  simp only [clsF, Bool.and_eq_true] at h
  have := clsF_odd l b h.2
  simp; omega
theorem rd_i {xs : List Int} {i : Nat} {a : Int} {l : List Int} (h : xs.drop i = a :: l) : i < xs.length ∧ rd xs i = a ∧ xs.drop (i + 1) = l := by
 have hlt : i < xs.length := by
  rcases Nat.lt_or_ge i xs.length with h' | h'
  ·exact h'
  ·rw [List.drop_of_length_le h'] at h; cases h
 rw [List.drop_eq_getElem_cons hlt] at h
 injection h with h1 h2
 refine ⟨hlt, ?_, h2⟩
 unfold rd
 rw [Int.toNat_natCast, List.getD_eq_getElem?_getD, List.getElem?_eq_getElem hlt, h1]
 rfl
theorem wrap_2 {i n : Nat} (h : i + 1 < n) (hn : Fits n) : wrap64 ((i : Int) + 2) = ((i + 2 : Nat) : Int) := by unfold Fits at hn; unfold wrap64; omega
theorem cls_ev : ∀ (l xs : List Int) (i : Nat) (last : Int), xs.drop i = l → l.length % 2 = 0 → Fits xs.length → Ev (fun k => spec_reClass.l0 k xs last i) (clsF last l)
 | [], xs, i, last, hd, he, hx => by
  have hge : ¬ ((i : Int) < (xs.length : Int)) := by have := List.drop_eq_nil_iff.1 hd; omega
  exact Ev.step (f := fun _ => some true) (fun k => by simp only [spec_reClass.l0, if_neg hge]) (Ev.now _)
 | [_], xs, i, last, hd, he, hx => by simp at he
 | a :: b :: l, xs, i, last, hd, he, hx => by
  obtain ⟨h1, ha, hd1⟩ := rd_i hd
  obtain ⟨h2, hb, hd2⟩ := rd_i hd1
  have g1 : (i : Int) < (xs.length : Int) := by omega
  have g0 : (0 : Int) ≤ (i : Int) := by omega
  have g2 : ((i + 1 : Nat) : Int) < (xs.length : Int) := by omega
  have g3 : (0 : Int) ≤ ((i + 1 : Nat) : Int) := by omega
  simp only [clsF]
  refine Ev.step (f := fun k => if a ≤ last then some false else if a > b then some false else if b > 1114111 then some false else spec_reClass.l0 k xs b ((i + 2 : Nat) : Int)) (fun k => by simp only [spec_reClass.l0, if_pos g1, if_pos g0, ha, wrap_i h1 hx, if_pos g2, if_pos g3, hb, wrap_2 h2 hx]) ?_
  by_cases c1 : a ≤ last
  ·rw [show decide (last < a) = false by simp; omega]
   exact Ev.congr (f := fun _ => some false) (fun k => by simp only [if_pos c1]) (Ev.now _)
  ·rw [show decide (last < a) = true by simp; omega]
   by_cases c2 : a > b
   ·rw [show decide (a ≤ b) = false by simp; omega]
    exact Ev.congr (f := fun _ => some false) (fun k => by simp only [if_neg c1, if_pos c2]) (Ev.now _)
   ·rw [show decide (a ≤ b) = true by simp; omega]
    by_cases c3 : b > 1114111
    ·rw [show decide (b ≤ 1114111) = false by simp; omega]
     exact Ev.congr (f := fun _ => some false) (fun k => by simp only [if_neg c1, if_neg c2, if_pos c3]) (Ev.now _)
    ·rw [show decide (b ≤ 1114111) = true by simp; omega]
     exact Ev.congr (f := fun k => spec_reClass.l0 k xs b ((i + 2 : Nat) : Int)) (fun k => by simp only [if_neg c1, if_neg c2, if_neg c3]) (cls_ev l xs (i + 2) b hd2 (by simp at he; omega) hx)
theorem pairs_ev : ∀ (l xs : List Int) (i : Nat) (last : Int), xs.drop i = l → Fits xs.length → Ev (fun k => impl_pairs.l0 k xs last i) (clsF last l)
 | [], xs, i, last, hd, hx => by
  have hge : ¬ ((i : Int) < (xs.length : Int)) := by have := List.drop_eq_nil_iff.1 hd; omega
  exact Ev.step (f := fun _ => some true) (fun k => by simp only [impl_pairs.l0, if_neg hge]) (Ev.now _)
 | [a], xs, i, last, hd, hx => by
  obtain ⟨h1, ha, hd1⟩ := rd_i hd
  have g1 : (i : Int) < (xs.length : Int) := by omega
  have g2 : ((i + 1 : Nat) : Int) = (xs.length : Int) := by have := List.drop_eq_nil_iff.1 hd1; omega
  exact Ev.step (f := fun _ => some false) (fun k => by simp only [impl_pairs.l0, if_pos g1, wrap_i h1 hx, if_pos g2]) (Ev.now _)
 | a :: b :: l, xs, i, last, hd, hx => by
  obtain ⟨h1, ha, hd1⟩ := rd_i hd
  obtain ⟨h2, hb, hd2⟩ := rd_i hd1
  have g1 : (i : Int) < (xs.length : Int) := by omega
  have g0 : (0 : Int) ≤ (i : Int) := by omega
  have g2 : ((i + 1 : Nat) : Int) < (xs.length : Int) := by omega
  have g4 : ¬ ((i + 1 : Nat) : Int) = (xs.length : Int) := by omega
  have g3 : (0 : Int) ≤ ((i + 1 : Nat) : Int) := by omega
  simp only [clsF]
  refine Ev.step (f := fun k => if a ≤ last then some false else if b < a then some false else if b > 1114111 then some false else impl_pairs.l0 k xs b ((i + 2 : Nat) : Int)) (fun k => by simp only [impl_pairs.l0, if_pos g1, if_pos g0, ha, wrap_i h1 hx, if_neg g4, if_pos g2, if_pos g3, hb, wrap_2 h2 hx]) ?_
  by_cases c1 : a ≤ last
  ·rw [show decide (last < a) = false by simp; omega]
   exact Ev.congr (f := fun _ => some false) (fun k => by simp only [if_pos c1]) (Ev.now _)
  ·rw [show decide (last < a) = true by simp; omega]
   by_cases c2 : b < a
   ·rw [show decide (a ≤ b) = false by simp; omega]
    exact Ev.congr (f := fun _ => some false) (fun k => by simp only [if_neg c1, if_pos c2]) (Ev.now _)
   ·rw [show decide (a ≤ b) = true by simp; omega]
    by_cases c3 : b > 1114111
    ·rw [show decide (b ≤ 1114111) = false by simp; omega]
     exact Ev.congr (f := fun _ => some false) (fun k => by simp only [if_neg c1, if_neg c2, if_pos c3]) (Ev.now _)
    ·rw [show decide (b ≤ 1114111) = true by simp; omega]
     exact Ev.congr (f := fun k => impl_pairs.l0 k xs b ((i + 2 : Nat) : Int)) (fun k => by simp only [if_neg c1, if_neg c2, if_neg c3]) (pairs_ev l xs (i + 2) b hd2 hx)
theorem chars_ev : ∀ (l xs : List Int) (i : Nat), xs.drop i = l → Fits xs.length → Ev (fun k => impl_characters.l0 k xs xs.length i) (chrF l)
 | [], xs, i, hd, hx => by
  have hge : ¬ ((i : Int) < (xs.length : Int)) := by have := List.drop_eq_nil_iff.1 hd; omega
  exact Ev.step (f := fun _ => some true) (fun k => by simp only [impl_characters.l0, if_neg hge]) (Ev.now _)
 | a :: l, xs, i, hd, hx => by
  obtain ⟨h1, ha, hd1⟩ := rd_i hd
  have g1 : (i : Int) < (xs.length : Int) := by omega
  have g0 : (0 : Int) ≤ (i : Int) := by omega
  simp only [chrF]
  refine Ev.step (f := fun k => if a < 0 then some false else if a > 1114111 then some false else impl_characters.l0 k xs xs.length ((i + 1 : Nat) : Int)) (fun k => by simp only [impl_characters.l0, if_pos g1, if_pos g0, ha, wrap_i h1 hx]) ?_
  by_cases c1 : a < 0
  ·rw [show decide (0 ≤ a) = false by simp; omega]
   exact Ev.congr (f := fun _ => some false) (fun k => by simp only [if_pos c1]) (Ev.now _)
  ·rw [show decide (0 ≤ a) = true by simp; omega]
   by_cases c2 : a > 1114111
   ·rw [show decide (a ≤ 1114111) = false by simp; omega]
    exact Ev.congr (f := fun _ => some false) (fun k => by simp only [if_neg c1, if_pos c2]) (Ev.now _)
   ·rw [show decide (a ≤ 1114111) = true by simp; omega]
    exact Ev.congr (f := fun k => impl_characters.l0 k xs xs.length ((i + 1 : Nat) : Int)) (fun k => by simp only [if_neg c1, if_neg c2]) (chars_ev l xs (i + 1) hd1 hx)
theorem rd_in (L : List In) (i : Nat) : rd_T55 L (i : Int) = inAt L i := by
 unfold rd_T55
 rw [Int.toNat_natCast]
theorem rd_L {L : List In} {i : Nat} {a : In} {l : List In} (h : L.drop i = a :: l) : i < L.length ∧ rd_T55 L (i : Int) = a ∧ L.drop (i + 1) = l := by
 have hlt : i < L.length := by
  rcases Nat.lt_or_ge i L.length with h' | h'
  ·exact h'
  ·rw [List.drop_of_length_le h'] at h; cases h
 rw [List.drop_eq_getElem_cons hlt] at h
 injection h with h1 h2
 refine ⟨hlt, ?_, h2⟩
 rw [rd_in, inAt, List.getD_eq_getElem?_getD, List.getElem?_eq_getElem hlt, h1]
 rfl
theorem in_getD {L : List In} {i : Nat} (h : i < L.length) : inAt L i ∈ L := by
 rw [inAt, List.getD_eq_getElem?_getD, List.getElem?_eq_getElem h]
 exact List.getElem_mem h
/-- Nothing is longer than may be. -/
def zzI (I : In) : Bool := decide (I.f3.length ≤ 2147483647)
def zzB (L : List In) : Bool := decide (L.length ≤ 2147483647) && L.all zzI
theorem zz5 (I : In) : laws_zzFits5.f I.f0 I.f1 I.f2 I.f3 = some (zzI I) := by
 unfold laws_zzFits5.f zzI
 split
 ·rw [decide_eq_false (by omega)]
 ·rw [decide_eq_true (by omega)]
theorem zz4 : ∀ (l L : List In) (i : Nat), L.drop i = l → Fits L.length → Ev (fun k => laws_zzFits4.l0 k L L.length i) (l.all zzI)
 | [], L, i, hd, hx => by
  have hge : ¬ ((i : Int) < (L.length : Int)) := by have := List.drop_eq_nil_iff.1 hd; omega
  exact Ev.step (f := fun _ => some true) (fun k => by simp only [laws_zzFits4.l0, if_neg hge]) (Ev.now _)
 | I :: l, L, i, hd, hx => by
  obtain ⟨h1, hI, hd1⟩ := rd_L hd
  have g1 : (i : Int) < (L.length : Int) := by omega
  have g0 : (0 : Int) ≤ (i : Int) := by omega
  simp only [List.all_cons]
  refine Ev.step (f := fun k => if zzI I = true then laws_zzFits4.l0 k L L.length ((i + 1 : Nat) : Int) else some false) (fun k => by simp only [laws_zzFits4.l0, if_pos g1, if_pos g0, hI, zz5, Option.bind_some, wrap_i h1 hx]) ?_
  cases c : zzI I with
  | true => simpa only [Bool.true_and, if_true] using zz4 l L (i + 1) hd1 hx
  | false => exact Ev.congr (f := fun _ => some false) (fun k => by simp) (Ev.now _)
theorem zz_ev (L : List In) (st ncap : Int) : Ev (fun k => laws_zzFits3.f k L st ncap) (zzB L) := by
 unfold laws_zzFits3.f
 refine Ev.bind (f := fun _ (t : Bool) => if t = true then some true else some false) (a := zzB L) ?_ ?_
 ·unfold laws_zzFits4.f zzB
  by_cases h : (L.length : Int) > 2147483647
  ·rw [decide_eq_false (by omega)]
   exact Ev.congr (f := fun _ => some false) (fun k => by simp only [if_pos h]) (Ev.now _)
  ·rw [decide_eq_true (by omega)]
   have := zz4 L L 0 rfl (by unfold Fits; omega)
   simp only [if_neg h, Bool.true_and]
   exact this
 ·cases zzB L <;> exact Ev.now _
theorem zz_of {L : List In} (h : zzB L = true) : ∀ I ∈ L, I.f3.length ≤ 2147483647 := fun I hI => by
 simp only [zzB, Bool.and_eq_true, List.all_eq_true] at h
 simpa [zzI] using h.2 I hI
theorem same_ev : ∀ (l a b : List Int) (i : Nat), a.drop i = l → a.length = b.length → Fits a.length → Ev (fun k => spec_progSame.l0 k a b a.length i) (decide (a.drop i = b.drop i))
 | [], a, b, i, hd, hl, hx => by
  have h1 := List.drop_eq_nil_iff.1 hd
  have hge : ¬ ((i : Int) < (a.length : Int)) := by omega
  have hb : b.drop i = [] := List.drop_eq_nil_iff.2 (by omega)
  rw [decide_eq_true (by rw [hd, hb])]
  exact Ev.step (f := fun _ => some true) (fun k => by simp only [spec_progSame.l0, if_neg hge]) (Ev.now _)
 | x :: l, a, b, i, hd, hl, hx => by
  obtain ⟨h1, hX, hd1⟩ := rd_i hd
  have hlt : i < b.length := by omega
  obtain ⟨hY1, hY, hd2⟩ := rd_i (List.drop_eq_getElem_cons hlt)
  have g1 : (i : Int) < (a.length : Int) := by omega
  have g2 : (i : Int) < (b.length : Int) := by omega
  have g0 : (0 : Int) ≤ (i : Int) := by omega
  refine Ev.step (f := fun k => if x = b[i] then spec_progSame.l0 k a b a.length ((i + 1 : Nat) : Int) else some false) (fun k => by simp only [spec_progSame.l0, if_pos g1, if_pos g0, if_pos g2, hX, hY, wrap_i h1 hx]) ?_
  have ih := same_ev l a b (i + 1) hd1 hl hx
  rw [hd, List.drop_eq_getElem_cons hlt]
  by_cases c : x = b[i]
  ·simp only [if_pos c]
   rw [hd1] at ih
   rw [show decide (x :: l = b[i] :: b.drop (i + 1)) = decide (l = b.drop (i + 1)) from decide_eq_decide.2 ⟨fun h => by injection h, fun h => by rw [c, h]⟩]
   exact ih
  ·simp only [if_neg c]
   rw [decide_eq_false (fun h => c (by injection h))]
   exact Ev.now _
theorem same_f (a b : List Int) (hx : Fits a.length) : Ev (fun k => spec_progSame.f k a b) (decide (a = b)) := by
 unfold spec_progSame.f
 by_cases h : (a.length : Int) = (b.length : Int)
 ·simp only [if_pos h]
  exact same_ev a a b 0 rfl (by omega) hx
 ·simp only [if_neg h]
  rw [decide_eq_false (fun e => h (by rw [e]))]
  exact Ev.now _
theorem reClass_f (l : List Int) (hx : Fits l.length) : Ev (fun k => spec_reClass.f k l) (clsF (-1) l) := by
 unfold spec_reClass.f
 by_cases h : ((l.length : Int) % 2) = 0
 ·simp only [if_pos h]
  exact cls_ev l l 0 (-1) rfl (by omega) hx
 ·simp only [if_neg h]
  cases c : clsF (-1) l with
  | false => exact Ev.now _
  | true => exact absurd (clsF_odd _ _ c) (by omega)
def runesF (l : List Int) : Bool := if l.length = 1 then decide (0 ≤ rd l 0) && decide (rd l 0 ≤ 1114111) else clsF (-1) l
theorem rd0 (l : List Int) : rd l 0 = l.getD 0 0 := rfl
theorem rd1 (l : List Int) : rd l 1 = l.getD 1 0 := rfl
theorem runes_ev (a b c : Int) (l : List Int) (hx : Fits l.length) : Ev (fun k => spec_progRunes.f k a b c l) (runesF l) := by
 unfold spec_progRunes.f runesF
 by_cases h : l.length = 1
 ·have h1 : (l.length : Int) = 1 := by omega
  have h2 : (0 : Int) < (l.length : Int) := by omega
  simp only [if_pos h1, if_pos h2, if_pos h]
  by_cases h3 : 0 ≤ rd l 0
  ·simp only [if_pos h3, decide_eq_true h3, Bool.true_and]
   exact Ev.now _
  ·simp only [if_neg h3, decide_eq_false h3, Bool.false_and]
   exact Ev.now _
 ·have h1 : ¬ (l.length : Int) = 1 := by omega
  simp only [if_neg h1, if_neg h]
  exact Ev.bind (f := fun _ r => some r) (reClass_f l hx) (Ev.now _)
def toB (L : List In) (x : Int) : Bool := decide (0 ≤ x ∧ x < L.length)
theorem to_f (L : List In) (a b x : Int) : spec_progTo.f L a b x = some (toB L x) := by
 unfold spec_progTo.f toB
 by_cases h : 0 ≤ x
 ·simp [h]
 ·simp [h]
def instR (L : List In) (ncap : Int) (I : In) : Bool :=
 if I.f0 = 0 then toB L I.f2 else if I.f0 = 2 then decide (2 ≤ I.f2 ∧ I.f2 < ncap) else if I.f0 = 3 then decide (0 < I.f2 ∧ I.f2 < 64) else if I.f0 = 6 then true
 else if I.f0 = 9 then decide (I.f3.length = 0 ∨ I.f3 = [0, 1114111]) else if I.f0 = 10 then decide (I.f3.length = 0 ∨ I.f3 = [0, 9, 11, 1114111])
 else if I.f0 = 8 then decide (I.f3.length = 1 ∨ I.f3.length = 2 ∧ rd I.f3 0 = rd I.f3 1) && runesF I.f3
 else if I.f0 = 7 then (decide (I.f2 = 1 ∧ I.f3.length = 1) && runesF I.f3) || (decide (I.f2 = 0) && clsF (-1) I.f3) else false
def instB (L : List In) (ncap : Int) (I : In) : Bool := if I.f0 = 4 ∨ I.f0 = 5 then true else toB L I.f1 && instR L ncap I
theorem dec_ite {p q : Prop} [Decidable p] [Decidable q] : (if p then some (decide q) else some false) = some (decide (p ∧ q)) := by
 by_cases h : p <;> simp [h]
theorem ev_or0 {g : Nat → Option Bool} {n : Nat} {b : Bool} (h : Ev g b) : Ev (fun k => if (n : Int) = 0 then some true else (g k).bind fun t => some t) (decide (n = 0) || b) := by
 by_cases c : n = 0
 ·subst c; simp only [Int.ofNat_eq_natCast]; exact Ev.congr (f := fun _ => some true) (fun k => by simp) (by simpa using Ev.now true)
 ·have c' : ¬ (n : Int) = 0 := by omega
  simp only [if_neg c', decide_eq_false c, Bool.false_or]
  exact Ev.bind (f := fun _ r => some r) h (Ev.now _)
theorem inst_ev (L : List In) (st ncap : Int) (I : In) (hx : Fits I.f3.length) : Ev (fun k => spec_progInst.f k L st ncap I.f0 I.f1 I.f2 I.f3) (instB L ncap I) := by
 obtain ⟨op, f1, f2, rs⟩ := I
 unfold spec_progInst.f instB
 simp only at *
 by_cases h4 : op = 4
 ·simp only [if_pos h4, h4, true_or, if_true]
  exact Ev.step (f := fun _ => some true) (fun k => by simp only [spec_progInst.j0, if_true]) (Ev.now _)
 by_cases h5 : op = 5
 ·have h54 : ¬ (5 : Int) = 4 := by decide
  simp only [h5, if_neg h54, or_true, if_true]
  exact Ev.step (f := fun _ => some true) (fun k => by simp [spec_progInst.j0]) (Ev.now _)
 have hb : (op == 5) = false := by simpa using h5
 have h45 : ¬ (op = 4 ∨ op = 5) := by omega
 simp only [if_neg h4, if_neg h45, hb]
 refine Ev.step (fun k => rfl) ?_
 simp only [spec_progInst.j0, Bool.false_eq_true, if_false, to_f, Option.bind_some]
 cases ht : toB L f1 with
 | false => simp only [Bool.false_eq_true, if_false, Bool.false_and]; exact Ev.now _
 | true =>
  simp only [if_true, Bool.true_and]
  unfold instR
  simp only
  by_cases h0 : op = 0
  ·simp only [if_pos h0]; exact Ev.now _
  simp only [if_neg h0]
  by_cases h2 : op = 2
  ·simp only [if_pos h2, dec_ite]; exact Ev.now _
  simp only [if_neg h2]
  by_cases h3 : op = 3
  ·simp only [if_pos h3, dec_ite]; exact Ev.now _
  simp only [if_neg h3]
  by_cases h6 : op = 6
  ·simp only [if_pos h6]; exact Ev.now _
  simp only [if_neg h6]
  by_cases h9 : op = 9
  ·simp only [if_pos h9]
   have := ev_or0 (n := rs.length) (same_f rs [0, 1114111] hx)
   rw [show decide (rs.length = 0 ∨ rs = [0, 1114111]) = (decide (rs.length = 0) || decide (rs = [0, 1114111])) by simp]
   exact this
  simp only [if_neg h9]
  by_cases h10 : op = 10
  ·simp only [if_pos h10]
   have := ev_or0 (n := rs.length) (same_f rs [0, 9, 11, 1114111] hx)
   rw [show decide (rs.length = 0 ∨ rs = [0, 9, 11, 1114111]) = (decide (rs.length = 0) || decide (rs = [0, 9, 11, 1114111])) by simp]
   exact this
  simp only [if_neg h10]
  have hr := Ev.bind (f := fun _ r => some r) (runes_ev op f1 f2 rs hx) (Ev.now _)
  have hc := Ev.bind (f := fun _ r => some r) (reClass_f rs hx) (Ev.now _)
  by_cases h8 : op = 8
  ·simp only [if_pos h8]
   by_cases l1 : rs.length = 1
   ·have l1' : (rs.length : Int) = 1 := by omega
    simp only [if_pos l1', l1, true_or, decide_true, Bool.true_and]
    exact hr
   ·have l1' : ¬ (rs.length : Int) = 1 := by omega
    simp only [if_neg l1', l1, false_or]
    by_cases l2 : rs.length = 2
    ·have a1 : (rs.length : Int) = 2 := by omega
     have a2 : (0 : Int) < (rs.length : Int) := by omega
     have a3 : (1 : Int) < (rs.length : Int) := by omega
     simp only [if_pos a1, if_pos a2, if_pos a3]
     rw [show decide (rs.length = 2 ∧ rd rs 0 = rd rs 1) = decide (rd rs 0 = rd rs 1) by simp [l2]]
     by_cases e : rd rs 0 = rd rs 1
     ·simp only [if_pos e, decide_eq_true e, Bool.true_and]; exact hr
     ·simp only [if_neg e, decide_eq_false e, Bool.false_and]; exact Ev.now _
    ·have a1 : ¬ (rs.length : Int) = 2 := by omega
     simp only [if_neg a1, l2, false_and, decide_false, Bool.false_and]
     exact Ev.now _
  simp only [if_neg h8]
  by_cases h7 : op = 7
  ·simp only [if_pos h7]
   by_cases e1 : f2 = 1
   ·have e0 : ¬ f2 = 0 := by omega
    simp only [if_pos e1, if_neg e0, e1]
    by_cases l1 : rs.length = 1
    ·have l1' : (rs.length : Int) = 1 := by omega
     simp only [if_pos l1', l1, and_self, decide_true, Bool.true_and]
     refine Ev.bind (f := fun _ (t : Bool) => if t = true then some true else if (1 : Int) = 0 then _ else some false) (a := runesF rs) ?_ ?_
     ·subst e1; exact runes_ev op f1 1 rs hx
     ·cases runesF rs <;> exact Ev.now _
    ·have l1' : ¬ (rs.length : Int) = 1 := by omega
     simp only [if_neg l1', l1, and_false, decide_false, Bool.false_and, Bool.false_or]
     exact Ev.now _
   ·simp only [if_neg e1, e1, false_and, decide_false, Bool.false_and, Bool.false_or]
    by_cases e0 : f2 = 0
    ·simp only [if_pos e0, e0, decide_true, Bool.true_and]; exact hc
    ·simp only [if_neg e0, e0, decide_false, Bool.false_and]; exact Ev.now _
  simp only [if_neg h7]
  exact Ev.now _
end Go.Proofs.YtcncclglmgdinaaDoor.Ps
namespace Go.Proofs.YtcncclglmgdinaaDoor.Ps
open Go.RowKit Mem Go.Proofs.YtcncclglmgdinaaDoor.Fold Go.Proofs.YtcncclglmgdinaaDoor.PFnPgStep Go.Proofs.YtcncclglmgdinaaDoorW.PrintWords Go.Proofs.YtcncclglmgdinaaDoorW.PrintLast Go.Proofs.YtcncclglmgdinaaDoorW.PrintMore
set_option linter.unusedVariables false
set_option linter.unusedSimpArgs false
/-- n instructions from one on lead without a choice. -/
def circB : Nat → List In → Nat → Bool
 | 0, _, _ => true
 | n + 1, L, pc => if (inAt L pc).f0 = 0 ∨ (inAt L pc).f0 = 4 ∨ (inAt L pc).f0 = 5 then false else circB n L (inAt L pc).f1.toNat
theorem circ_ev {L : List In} (a b : Int) (hO : OutOk L) (hx : Fits L.length) : ∀ (n pc i : Nat), i + n = L.length → pc < L.length → Ev (fun k => spec_progCircle.l0 k pc L.length i L a b) (circB n L pc)
 | 0, pc, i, hi, hp => by
  have hge : ¬ ((i : Int) < (L.length : Int)) := by omega
  exact Ev.step (f := fun _ => some true) (fun k => by simp only [spec_progCircle.l0, if_neg hge]) (Ev.now _)
 | n + 1, pc, i, hi, hp => by
  have g1 : (i : Int) < (L.length : Int) := by omega
  have g2 : (0 : Int) ≤ (pc : Int) := by omega
  have g3 : (pc : Int) < (L.length : Int) := by omega
  refine Ev.step (fun k => rfl) ?_
  simp only [spec_progCircle.l0, if_pos g1, if_pos g2, if_pos g3, rd_in, wrap_i (show i < L.length by omega) hx, circB]
  by_cases h0 : (inAt L pc).f0 = 0
  ·simp only [h0, true_or, if_true]; exact Ev.now _
  by_cases h4 : (inAt L pc).f0 = 4
  ·simp only [h4, true_or, or_true, if_true]; exact Ev.congr (f := fun _ => some false) (fun k => by simp) (Ev.now _)
  by_cases h5 : (inAt L pc).f0 = 5
  ·simp only [h5, or_true, if_true]; exact Ev.congr (f := fun _ => some false) (fun k => by simp) (Ev.now _)
  have ho := out_nat hO hp ⟨h4, h5⟩
  have ih := circ_ev a b hO hx n (inAt L pc).f1.toNat (i + 1) (by omega) ho.1
  rw [ho.2] at ih
  simp only [if_neg h0, if_neg h4, if_neg h5, h0, h4, h5, or_self, if_false]
  exact ih
theorem circ_f {L : List In} (a b : Int) (hO : OutOk L) (hx : Fits L.length) (pc : Nat) (hp : pc < L.length) : Ev (fun k => spec_progCircle.f k L a b pc) (circB L.length L pc) := by
 unfold spec_progCircle.f
 exact circ_ev a b hO hx L.length pc 0 (by omega) hp
theorem out_of {L : List In} {ncap : Int} (h : L.all (instB L ncap) = true) : OutOk L := fun pc hp => by
 have := List.all_eq_true.1 h _ (in_getD hp)
 generalize inAt L pc = I at *
 obtain ⟨op, f1, f2, rs⟩ := I
 simp only [instB, instR, toB] at *
 by_cases h45 : op = 4 ∨ op = 5
 ·refine ⟨by omega, fun h => by omega⟩
 ·rw [if_neg h45] at this
  simp only [Bool.and_eq_true, decide_eq_true_eq] at this
  refine ⟨by omega, fun h0 => ?_⟩
  have h2 := this.2
  rw [if_pos h0] at h2
  simpa using h2
def rng (L : List In) (i : Nat) : Bool := (List.range' i (L.length - i)).all fun pc => !circB L.length L pc
theorem rng_last {L : List In} {i : Nat} (h : L.length ≤ i) : rng L i = true := by
 simp [rng, show L.length - i = 0 by omega]
theorem rng_step {L : List In} {i : Nat} (h : i < L.length) : rng L i = (!circB L.length L i && rng L (i + 1)) := by
 unfold rng
 rw [show L.length - i = (L.length - (i + 1)) + 1 by omega, List.range'_succ, List.all_cons]
theorem l1_ev {L : List In} (a b : Int) (hO : OutOk L) (hx : Fits L.length) : ∀ (n i : Nat), i + n = L.length → Ev (fun k => spec_ProgSound.l1 k L.length i L a b) (rng L i)
 | 0, i, hi => by
  have hge : ¬ ((i : Int) < (L.length : Int)) := by omega
  rw [rng_last (by omega)]
  exact Ev.step (f := fun _ => some true) (fun k => by simp only [spec_ProgSound.l1, if_neg hge]) (Ev.now _)
 | n + 1, i, hi => by
  have g1 : (i : Int) < (L.length : Int) := by omega
  rw [rng_step (by omega)]
  refine Ev.step (f := fun k => (spec_progCircle.f k L a b i).bind fun t => if t = true then some false else spec_ProgSound.l1 k L.length ((i + 1 : Nat) : Int) L a b) (fun k => by simp only [spec_ProgSound.l1, if_pos g1, wrap_i (show i < L.length by omega) hx]) ?_
  refine Ev.bind (f := fun k (t : Bool) => if t = true then some false else spec_ProgSound.l1 k L.length ((i + 1 : Nat) : Int) L a b) (circ_f a b hO hx i (by omega)) ?_
  cases circB L.length L i with
  | true => exact Ev.now _
  | false => simpa using l1_ev a b hO hx n (i + 1) (by omega)
theorem l0_ev {L : List In} (a b : Int) (hz : ∀ I ∈ L, Fits I.f3.length) (hx : Fits L.length) : ∀ (l : List In) (i : Nat), L.drop i = l → (L.take i).all (instB L b) = true → Ev (fun k => spec_ProgSound.l0 k L L.length i L a b) (l.all (instB L b) && rng L 0)
 | [], i, hd, ha => by
  have h1 := List.drop_eq_nil_iff.1 hd
  have hge : ¬ ((i : Int) < (L.length : Int)) := by omega
  rw [List.take_of_length_le h1] at ha
  simp only [List.all_nil, Bool.true_and]
  exact Ev.step (f := fun k => spec_ProgSound.l1 k L.length 0 L a b) (fun k => by simp only [spec_ProgSound.l0, if_neg hge]) (l1_ev a b (out_of ha) hx L.length 0 (by omega))
 | I :: l, i, hd, ha => by
  obtain ⟨h1, hI, hd1⟩ := rd_L hd
  have g1 : (i : Int) < (L.length : Int) := by omega
  have g0 : (0 : Int) ≤ (i : Int) := by omega
  simp only [List.all_cons]
  refine Ev.step (f := fun k => (spec_progInst.f k L a b I.f0 I.f1 I.f2 I.f3).bind fun t => if t = true then spec_ProgSound.l0 k L L.length ((i + 1 : Nat) : Int) L a b else some false) (fun k => by simp only [spec_ProgSound.l0, if_pos g1, if_pos g0, hI, wrap_i h1 hx]) ?_
  have hm : I ∈ L := List.mem_of_mem_drop (by rw [hd]; simp)
  refine Ev.bind (f := fun k (t : Bool) => if t = true then spec_ProgSound.l0 k L L.length ((i + 1 : Nat) : Int) L a b else some false) (inst_ev L a b I (hz I hm)) ?_
  cases c : instB L b I with
  | true =>
   simp only [Bool.true_and, if_true]
   refine l0_ev a b hz hx l (i + 1) hd1 ?_
   have e : L.take (i + 1) = L.take i ++ [I] := by
    rw [List.take_add_one]
    have : L[i]? = some I := by
     rw [← List.head?_drop, hd]; rfl
    rw [this]; rfl
   rw [e, List.all_append, ha]
   simp [c]
  | false => exact Ev.congr (f := fun _ => some false) (fun k => by simp) (by simpa using Ev.now false)
def sndB (most : Nat) (L : List In) (st ncap : Int) : Bool :=
 decide (0 < L.length) && decide (L.length ≤ most) && decide ((inAt L 0).f0 = 5) && toB L st && decide (2 ≤ ncap) && decide (ncap ≤ 2002) && decide (Int.tmod ncap 2 = 0) && (L.all (instB L ncap) && rng L 0)
theorem snd_ev (most : Nat) (hm : most ≤ 2000) (L : List In) (st ncap : Int) (hz : ∀ I ∈ L, Fits I.f3.length) : Ev (fun k => spec_ProgSound.f k L st ncap most) (sndB most L st ncap) := by
 unfold spec_ProgSound.f sndB
 have hj : Ev (fun k => spec_ProgSound.j0 k true L st ncap) false := Ev.step (f := fun _ => some false) (fun k => by simp only [spec_ProgSound.j0, if_true]) (Ev.now _)
 by_cases h0 : L.length = 0
 ·have h0' : (L.length : Int) = 0 := by omega
  have h0'' : ¬ 0 < L.length := by omega
  simp only [if_pos h0', h0'', decide_false, Bool.false_and]
  exact hj
 have h0' : ¬ (L.length : Int) = 0 := by omega
 have h0'' : 0 < L.length := by omega
 have h0i : (0 : Int) < (L.length : Int) := by omega
 simp only [if_neg h0', h0'', decide_true, Bool.true_and]
 by_cases h5 : L.length ≤ most
 ·have h5' : ¬ (L.length : Int) > (most : Int) := by omega
  have e0 : rd_T55 L 0 = inAt L 0 := rd_in L 0
  simp only [if_neg h5', h5, decide_true, Bool.true_and, if_pos h0i, e0]
  by_cases hf : (inAt L 0).f0 = 5
  ·simp only [if_pos hf, hf, decide_true, Bool.true_and, to_f, Option.bind_some]
   cases ht : toB L st with
   | false => simp only [Bool.false_eq_true, if_false, Bool.false_and]; exact hj
   | true =>
    simp only [if_true, Bool.true_and]
    by_cases c2 : ncap < 2
    ·have : ¬ 2 ≤ ncap := by omega
     simp only [if_pos c2, this, decide_false, Bool.false_and]; exact hj
    have c2' : 2 ≤ ncap := by omega
    simp only [if_neg c2, c2', decide_true, Bool.true_and]
    by_cases c3 : ncap > 2002
    ·have : ¬ ncap ≤ 2002 := by omega
     simp only [if_pos c3, this, decide_false, Bool.false_and]; exact hj
    have c3' : ncap ≤ 2002 := by omega
    simp only [if_neg c3, c3', decide_true, Bool.true_and]
    by_cases c4 : Int.tmod ncap 2 = 0
    ·have c4' : (Int.tmod ncap 2 != 0) = false := by simp [c4]
     simp only [c4', decide_eq_true c4, Bool.true_and]
     refine Ev.step (f := fun k => spec_ProgSound.l0 k L L.length 0 L st ncap) (fun k => by simp only [spec_ProgSound.j0, Bool.false_eq_true, if_false]) ?_
     exact l0_ev st ncap hz (by unfold Fits; omega) L 0 rfl (by simp)
    ·have c4' : (Int.tmod ncap 2 != 0) = true := by simp [c4]
     simp only [c4', decide_eq_false c4, Bool.false_and]
     exact hj
  ·simp only [if_neg hf, decide_eq_false hf, Bool.false_and]; exact hj
 ·have h5' : (L.length : Int) > (most : Int) := by omega
  simp only [if_pos h5', decide_eq_false h5, Bool.false_and]; exact hj
end Go.Proofs.YtcncclglmgdinaaDoor.Ps
namespace Go.Proofs.YtcncclglmgdinaaDoor.Ps
open Go.RowKit Mem Go.Proofs.YtcncclglmgdinaaDoor.Fold Go.Proofs.YtcncclglmgdinaaDoor.PFnPgStep Go.Proofs.YtcncclglmgdinaaDoorW.PrintWords Go.Proofs.YtcncclglmgdinaaDoorW.PrintLast Go.Proofs.YtcncclglmgdinaaDoorW.PrintMore
set_option linter.unusedVariables false
set_option linter.unusedSimpArgs false
theorem clsF_hi : ∀ (l : List Int) (last : Int), clsF last l = true → last ≤ 1114111 → chrF l = true ∨ last < -1
 | [], _, _, _ => Or.inl rfl
 | [_], _, h, _ => by simp [clsF] at h
 | a :: b :: l, last, h, hl => by
  simp only [clsF, Bool.and_eq_true, decide_eq_true_eq] at h
  by_cases c : last < -1
  ·exact Or.inr c
  ·rcases clsF_hi l b h.2 h.1.2 with h2 | h2
   ·left
    simp only [chrF, Bool.and_eq_true, decide_eq_true_eq]
    exact ⟨⟨by omega, by omega⟩, ⟨by omega, by omega⟩, h2⟩
   ·omega
theorem runes_chr (l : List Int) (h : runesF l = true) : chrF l = true := by
 unfold runesF at h
 split at h
 ·rename_i hl
  match l, hl with
  | [a], _ =>
   simp only [rd0, List.getD_cons_zero, Bool.and_eq_true, decide_eq_true_eq] at h
   simp [chrF, h.1, h.2]
 ·rcases clsF_hi l (-1) h (by omega) with h2 | h2
  ·exact h2
  ·omega
theorem chars_f (l : List Int) (hx : Fits l.length) : Ev (fun k => impl_characters.f k l) (chrF l) := chars_ev l l 0 rfl hx
theorem pairs_f (l : List Int) (hx : Fits l.length) : Ev (fun k => impl_pairs.f k l) (clsF (-1) l) := pairs_ev l l 0 (-1) rfl hx
theorem fit_ev (L : List In) (st ncap : Int) (I : In) (hx : Fits I.f3.length) (h : instB L ncap I = true) : Ev (fun k => impl_fitInst.f k I.f0 I.f1 I.f2 I.f3 L st ncap) true := by
 obtain ⟨op, f1, f2, rs⟩ := I
 unfold impl_fitInst.f
 unfold instB instR toB at h
 simp only at *
 have fin : ∀ b, b = true → Ev (fun k => impl_fitInst.j1 k op b op f1 f2 rs) true := fun b hb => by
  subst hb
  exact Ev.step (f := fun _ => some true) (fun k => by simp only [impl_fitInst.j1, if_true]) (Ev.now _)
 by_cases h4 : op = 4
 ·simp only [if_pos h4]
  subst h4
  refine Ev.step (fun k => rfl) ?_
  simp only [impl_fitInst.j0, Bool.false_eq_true, if_false]
  simp only [show ¬ (4 : Int) = 0 by decide, show ¬ (4 : Int) = 2 by decide, show ¬ (4 : Int) = 3 by decide, if_false, if_true]
  exact fin _ rfl
 by_cases h5 : op = 5
 ·simp only [if_neg h4, if_pos h5]
  subst h5
  refine Ev.step (fun k => rfl) ?_
  simp only [impl_fitInst.j0, Bool.false_eq_true, if_false]
  simp only [show ¬ (5 : Int) = 0 by decide, show ¬ (5 : Int) = 2 by decide, show ¬ (5 : Int) = 3 by decide, show ¬ (5 : Int) = 4 by decide, if_false, if_true]
  exact fin _ rfl
 rw [if_neg (by omega)] at h
 simp only [Bool.and_eq_true, decide_eq_true_eq] at h
 obtain ⟨⟨ho1, ho2⟩, h⟩ := h
 have hd : decide (f1 ≥ (L.length : Int)) = false := decide_eq_false (by omega)
 simp only [if_neg h4, if_neg h5, if_neg (show ¬ f1 < 0 by omega), hd]
 refine Ev.step (fun k => rfl) ?_
 simp only [impl_fitInst.j0, Bool.false_eq_true, if_false]
 by_cases h0 : op = 0
 ·simp only [if_pos h0, decide_eq_true_eq] at h ⊢
  simp only [if_pos (show f2 ≥ 0 by omega), decide_eq_true h.2]
  exact Ev.now _
 simp only [if_neg h0] at h ⊢
 by_cases h2 : op = 2
 ·simp only [if_pos h2, decide_eq_true_eq] at h ⊢
  simp only [if_pos (show f2 ≥ 0 by omega), decide_eq_true h.2]
  exact Ev.now _
 simp only [if_neg h2] at h ⊢
 by_cases h3 : op = 3
 ·simp only [if_pos h3, decide_eq_true_eq] at h ⊢
  simp only [if_pos (show f2 > 0 by omega), decide_eq_true h.2]
  exact Ev.now _
 simp only [if_neg h3] at h ⊢
 simp only [if_neg h4, if_neg h5]
 by_cases h6 : op = 6
 ·exact fin _ (by simp [h6])
 have b6 : (op == 6) = false := by simpa using h6
 simp only [if_neg h6] at h
 refine Ev.step (fun k => rfl) ?_
 simp only [impl_fitInst.j1, b6, Bool.false_eq_true, if_false]
 by_cases h9 : op = 9
 ·simp only [if_pos h9, decide_eq_true_eq] at h ⊢
  rcases h with h | h
  ·have h' : (rs.length : Int) = 0 := by omega
   simp only [if_pos h']; exact Ev.now _
  ·subst h
   exact Ev.congr (f := fun _ => some true) (fun k => by simp [rd]) (Ev.now _)
 simp only [if_neg h9] at h ⊢
 by_cases h10 : op = 10
 ·simp only [if_pos h10, decide_eq_true_eq] at h ⊢
  rcases h with h | h
  ·have h' : (rs.length : Int) = 0 := by omega
   simp only [if_pos h']; exact Ev.now _
  ·subst h
   exact Ev.congr (f := fun _ => some true) (fun k => by simp [rd]) (Ev.now _)
 simp only [if_neg h10] at h ⊢
 by_cases h8 : op = 8
 ·have h7 : ¬ op = 7 := by omega
  simp only [if_pos h8, if_neg h7, Bool.and_eq_true, decide_eq_true_eq] at h ⊢
  have hc := chars_f rs hx
  rw [runes_chr rs h.2] at hc
  have hc' := Ev.bind (f := fun _ r => some r) hc (Ev.now _)
  by_cases l1 : (rs.length : Int) = 1
  ·simp only [if_pos l1]; exact hc'
  ·have l2 : rs.length = 2 ∧ rd rs 0 = rd rs 1 := h.1.resolve_left (by omega)
   have a1 : (rs.length : Int) = 2 := by omega
   have a2 : (0 : Int) < (rs.length : Int) := by omega
   have a3 : (1 : Int) < (rs.length : Int) := by omega
   simp only [if_neg l1, if_pos a1, if_pos a2, if_pos a3, if_pos l2.2]
   exact hc'
 simp only [if_neg h8] at h ⊢
 by_cases h7 : op = 7
 ·simp only [if_pos h7, Bool.or_eq_true, Bool.and_eq_true, decide_eq_true_eq] at h ⊢
  rcases h with ⟨⟨e1, l1⟩, hr⟩ | ⟨e0, hr⟩
  ·have hc := chars_f rs hx
   rw [runes_chr rs hr] at hc
   have l1' : (rs.length : Int) = 1 := by omega
   simp only [if_pos e1, if_pos l1']
   exact Ev.bind (f := fun _ (t : Bool) => if t = true then some true else if f2 = 0 then some false else some false) hc (Ev.now _)
  ·have e1 : ¬ f2 = 1 := by omega
   have l1' : ¬ (rs.length : Int) = 1 := by have := clsF_odd _ _ hr; omega
   have hc := pairs_f rs hx
   rw [hr] at hc
   simp only [if_neg e1, if_pos e0, if_neg l1']
   exact Ev.bind (f := fun _ r => some r) hc (Ev.now _)
 ·rw [if_neg h7] at h; simp at h
/-! No circle: how far it is to a choice. -/
def stopB (L : List In) (pc : Nat) : Prop := (inAt L pc).f0 = 0 ∨ (inAt L pc).f0 = 4 ∨ (inAt L pc).f0 = 5
instance (L : List In) (pc : Nat) : Decidable (stopB L pc) := by unfold stopB; infer_instance
theorem circ_step {n : Nat} {L : List In} {pc : Nat} (h : circB n L pc = false) (hs : ¬ stopB L pc) : ∃ m, n = m + 1 ∧ circB m L (inAt L pc).f1.toNat = false := by
 cases n with
 | zero => simp [circB] at h
 | succ n =>
  simp only [circB] at h
  rw [if_neg (by exact hs)] at h
  exact ⟨n, rfl, h⟩
theorem circ_mono {L : List In} : ∀ (n : Nat) (pc : Nat), circB n L pc = false → circB (n + 1) L pc = false
 | 0, pc, h => by simp [circB] at h
 | n + 1, pc, h => by
  rw [circB] at h ⊢
  split at h
  ·rename_i h'; rw [if_pos h']
  ·rename_i h'; rw [if_neg h']; exact circ_mono n _ h
theorem circ_le {L : List In} {n m : Nat} {pc : Nat} (h : circB n L pc = false) (hm : n ≤ m) : circB m L pc = false := by
 induction m with
 | zero =>
  obtain rfl : n = 0 := by omega
  exact h
 | succ m ih =>
  by_cases e : n = m + 1
  ·subst e; exact h
  ·exact circ_mono m pc (ih (by omega))
/-- The least number of rounds that show that there is none. -/
def dep (L : List In) : Nat → Nat → Nat
 | 0, _ => 0
 | n + 1, pc => if (inAt L pc).f0 = 0 ∨ (inAt L pc).f0 = 4 ∨ (inAt L pc).f0 = 5 then 0 else dep L n (inAt L pc).f1.toNat + 1
theorem dep_eq {L : List In} : ∀ (n m pc : Nat), circB n L pc = false → n ≤ m → dep L m pc = dep L n pc
 | 0, m, pc, h, _ => by simp [circB] at h
 | n + 1, m, pc, h, hm => by
  obtain ⟨m, rfl⟩ : ∃ m', m = m' + 1 := ⟨m - 1, by omega⟩
  simp only [dep]
  simp only [circB] at h
  split at h
  ·rename_i h'; rw [if_pos h', if_pos h']
  ·rename_i h'; rw [if_neg h', if_neg h', dep_eq n m _ h (by omega)]
theorem dep_out {L : List In} (hc : ∀ pc, pc < L.length → circB L.length L pc = false) {pc : Nat} (hp : pc < L.length) (hs : ¬ stopB L pc) (ho : (inAt L pc).f1.toNat < L.length) : dep L L.length pc = dep L L.length (inAt L pc).f1.toNat + 1 := by
 obtain ⟨m, hm, h1⟩ := circ_step (hc pc hp) hs
 rw [dep_eq m L.length _ h1 (by omega), hm]
 simp only [dep]
 rw [if_neg (by exact hs)]
theorem set_getD {xs : List Int} {i j : Nat} {v : Int} (hi : i < xs.length) : (xs.set i v).getD j 0 = if i = j then v else xs.getD j 0 := by
 simp only [List.getD_eq_getElem?_getD, List.getElem?_set]
 by_cases h : i = j
 ·subst h; simp [hi]
 ·simp [h]
theorem rd_n (xs : List Int) (i : Nat) : rd xs (i : Int) = xs.getD i 0 := by unfold rd; rw [Int.toNat_natCast]
section
variable {L : List In} (a b : Int) (hO : OutOk L) (hL : L.length ≤ 2000) (hc : ∀ pc, pc < L.length → circB L.length L pc = false)
include hO hL hc
/-- One round: the marks of this round lie farther from a choice. -/
theorem loop1_ev (n k : Nat) (hk : k + 1 + n = L.length) (ih : ∀ seen : List Int, seen.length = L.length → (∀ j, j < L.length → seen.getD j 0 ≤ (k + 1 : Nat)) → Ev (fun f => impl_loops.l0 f seen L.length ((k + 1 : Nat) : Int) L a b) false) :
  ∀ (d at_ : Nat) (seen : List Int), dep L L.length at_ ≤ d → at_ < L.length → seen.length = L.length → (∀ j, j < L.length → seen.getD j 0 ≤ (k + 1 : Nat)) → (∀ j, j < L.length → seen.getD j 0 = (k + 1 : Nat) → dep L L.length at_ < dep L L.length j) →
   Ev (fun f => impl_loops.l1 f seen k at_ L.length k L a b) false := by
 intro d
 induction d with
 | zero =>
  intro at_ seen hd hat hsl hse hsd
  have hw : wrap64 ((k : Int) + 1) = ((k + 1 : Nat) : Int) := by unfold wrap64; omega
  have hst : stopB L at_ := Decidable.byContradiction fun hs => by
   have hs' := hs
   unfold stopB at hs'
   have := dep_out hc hat hs (out_nat hO hat (by omega)).1
   omega
  have g1 : (0 : Int) ≤ (at_ : Int) := by omega
  have g2 : (at_ : Int) < (seen.length : Int) := by omega
  have g3 : (at_ : Int) < (L.length : Int) := by omega
  refine Ev.step (fun f => rfl) ?_
  simp only [impl_loops.l1, if_pos g1, if_pos g2, rd_n, rd_in, Option.bind_some, if_pos g3, hw, Int.toNat_natCast]
  by_cases h0 : seen.getD at_ 0 = 0
  ·simp only [if_pos h0]
   have nx : ∀ x, x = true → Ev (fun f => impl_loops.j2 f (seen.set at_ ((k + 1 : Nat) : Int)) k at_ L.length k x L a b) false := fun x hx => by
    subst hx
    refine Ev.step (fun f => rfl) ?_
    simp only [impl_loops.j2, if_true, hw]
    refine ih _ (by simpa using hsl) fun j hj => ?_
    rw [set_getD (by omega)]
    split
    ·omega
    ·exact hse j hj
   rcases hst with h | h | h
   ·simp only [if_pos h]; exact nx _ rfl
   ·simp only [h, show ¬ (4 : Int) = 0 by decide, if_false, if_true]; exact nx _ rfl
   ·simp only [h, show ¬ (5 : Int) = 0 by decide, show ¬ (5 : Int) = 4 by decide, if_false]; exact nx _ rfl
  ·simp only [if_neg h0]
   exact ih seen hsl hse
 | succ d ihd =>
  intro at_ seen hd hat hsl hse hsd
  have hw : wrap64 ((k : Int) + 1) = ((k + 1 : Nat) : Int) := by unfold wrap64; omega
  have g1 : (0 : Int) ≤ (at_ : Int) := by omega
  have g2 : (at_ : Int) < (seen.length : Int) := by omega
  have g3 : (at_ : Int) < (L.length : Int) := by omega
  refine Ev.step (fun f => rfl) ?_
  simp only [impl_loops.l1, if_pos g1, if_pos g2, rd_n, rd_in, Option.bind_some, if_pos g3, hw, Int.toNat_natCast]
  by_cases h0 : seen.getD at_ 0 = 0
  ·simp only [if_pos h0]
   have hset : ∀ j, j < L.length → (seen.set at_ ((k + 1 : Nat) : Int)).getD j 0 ≤ (k + 1 : Nat) := fun j hj => by
    rw [set_getD (by omega)]
    split
    ·omega
    ·exact hse j hj
   have nx : ∀ x, x = true → Ev (fun f => impl_loops.j2 f (seen.set at_ ((k + 1 : Nat) : Int)) k at_ L.length k x L a b) false := fun x hx => by
    subst hx
    refine Ev.step (fun f => rfl) ?_
    simp only [impl_loops.j2, if_true, hw]
    exact ih _ (by simpa using hsl) hset
   by_cases h1 : (inAt L at_).f0 = 0
   ·simp only [if_pos h1]; exact nx _ rfl
   by_cases h4 : (inAt L at_).f0 = 4
   ·simp only [if_neg h1, if_pos h4]; exact nx _ rfl
   by_cases h5 : (inAt L at_).f0 = 5
   ·simp only [if_neg h1, if_neg h4]; exact nx _ (by rw [h5]; rfl)
   have hs : ¬ stopB L at_ := by unfold stopB; omega
   have ho := out_nat hO hat ⟨h4, h5⟩
   have hdo := dep_out hc hat hs ho.1
   have b5 : ((inAt L at_).f0 == 5) = false := by simpa using h5
   simp only [if_neg h1, if_neg h4, b5]
   refine Ev.step (fun f => rfl) ?_
   have hsl' : (seen.set at_ ((k + 1 : Nat) : Int)).length = L.length := by simpa using hsl
   have q1 : 0 ≤ (inAt L at_).f1 := by omega
   have q2 : (inAt L at_).f1 < ((seen.set at_ ((k + 1 : Nat) : Int)).length : Int) := by rw [hsl']; omega
   have q3 : rd (seen.set at_ ((k + 1 : Nat) : Int)) (inAt L at_).f1 = (seen.set at_ ((k + 1 : Nat) : Int)).getD (inAt L at_).f1.toNat 0 := rfl
   have hmk : ∀ j, j < L.length → (seen.set at_ ((k + 1 : Nat) : Int)).getD j 0 = (k + 1 : Nat) → dep L L.length (inAt L at_).f1.toNat < dep L L.length j := fun j hj he => by
    rw [set_getD (by omega)] at he
    split at he
    ·rename_i e; subst e; omega
    ·have := hsd j hj he; omega
   have q4 : ¬ (seen.set at_ ((k + 1 : Nat) : Int)).getD (inAt L at_).f1.toNat 0 = ((k + 1 : Nat) : Int) := fun he => by
    have := hmk _ ho.1 he
    omega
   simp only [impl_loops.j2, Bool.false_eq_true, if_false, if_pos g1, if_pos g3, rd_in, if_pos q1, if_pos q2, q3, hw, if_neg q4]
   have := ihd (inAt L at_).f1.toNat _ (by omega) ho.1 hsl' hset hmk
   rw [ho.2] at this
   exact this
  ·simp only [if_neg h0]
   exact ih seen hsl hse
theorem loop0_ev : ∀ (n k : Nat) (seen : List Int), k + n = L.length → seen.length = L.length → (∀ j, j < L.length → seen.getD j 0 ≤ (k : Nat)) → Ev (fun f => impl_loops.l0 f seen L.length k L a b) false
 | 0, k, seen, hk, hsl, hse => by
  have hge : ¬ ((k : Int) < (L.length : Int)) := by omega
  exact Ev.step (f := fun _ => some false) (fun f => by simp only [impl_loops.l0, if_neg hge]) (Ev.now _)
 | n + 1, k, seen, hk, hsl, hse => by
  have hlt : (k : Int) < (L.length : Int) := by omega
  refine Ev.step (f := fun f => impl_loops.l1 f seen k k L.length k L a b) (fun f => by simp only [impl_loops.l0, if_pos hlt]) ?_
  refine loop1_ev a b hO hL hc n k (by omega) (fun s2 h2 h3 => loop0_ev n (k + 1) s2 (by omega) h2 h3) (dep L L.length k) k seen (Nat.le_refl _) (by omega) hsl (fun j hj => by have := hse j hj; omega) (fun j hj he => by have := hse j hj; omega)
theorem loops_f : Ev (fun f => impl_loops.f f L a b) false := by
 unfold impl_loops.f
 have h0 : (0 : Int) ≤ (L.length : Int) := by omega
 have h1 : ((L.length : Int) : Int).toNat ≤ 35184372088832 := by omega
 simp only [if_pos h0, Int.toNat_natCast, if_pos (show L.length ≤ 35184372088832 by omega)]
 exact loop0_ev a b hO hL hc L.length 0 (List.replicate L.length 0) (by omega) (by simp) (fun j hj => by simp [List.getD_eq_getElem?_getD, hj])
end
end Go.Proofs.YtcncclglmgdinaaDoor.Ps
namespace Go.Proofs.YtcncclglmgdinaaDoor.Ps
open Go.RowKit Mem Go.Proofs.YtcncclglmgdinaaDoor.Fold Go.Proofs.YtcncclglmgdinaaDoor.PFnPgStep Go.Proofs.YtcncclglmgdinaaDoorW.PrintWords Go.Proofs.YtcncclglmgdinaaDoorW.PrintLast Go.Proofs.YtcncclglmgdinaaDoorW.PrintMore
set_option linter.unusedVariables false
set_option linter.unusedSimpArgs false
/-- What is known of a sound program. -/
structure SQ (L : List In) (ncap : Int) (start : Nat) : Prop where
 out : OutOk L
 len : L.length ≤ 2000
 pos : 0 < L.length
 rl : ∀ pc, pc < L.length → (inAt L pc).f3.length ≤ 2147483647
 r8 : ∀ pc, pc < L.length → (inAt L pc).f0 = 8 → 0 < (inAt L pc).f3.length
 r7 : ∀ pc, pc < L.length → (inAt L pc).f0 ≠ 4 → (inAt L pc).f0 ≠ 8 → (inAt L pc).f0 ≠ 9 → (inAt L pc).f0 ≠ 10 → waitB (inAt L pc) = true → (inAt L pc).f3.length = 1 → ∃ p, Per ((inAt L pc).f3.getD 0 0) p
 fail : (inAt L 0).f0 = 5
 lt : start < L.length
 n0 : 2 ≤ ncap
 n1 : ncap ≤ 2002
 rg : ∀ i, i < L.length → 0 ≤ (inAt L i).f0 ∧ (inAt L i).f0 ≤ 255 ∧ (((inAt L i).f0 ≠ 4 ∧ (inAt L i).f0 ≠ 5) → 0 ≤ (inAt L i).f1 ∧ (inAt L i).f1 ≤ 2147483647) ∧ (inAt L i).f3.length ≤ 2147483647
 fit : ∀ i, i < L.length → ∃ k, impl_fitInst.f k (inAt L i).f0 (inAt L i).f1 (inAt L i).f2 (inAt L i).f3 L start ncap = some true
 loops : ∃ k, impl_loops.f k L start ncap = some false
 circ : ∀ pc, pc < L.length → circB L.length L pc = false
 inst : ∀ pc, pc < L.length → instB L ncap (inAt L pc) = true
theorem ev_ex {α : Type} {g : Nat → Option α} {r : α} (h : Ev g r) : ∃ k, g k = some r := by
 obtain ⟨K, hK⟩ := h
 exact ⟨K, hK K (Nat.le_refl _)⟩
theorem sq_of {L : List In} {st ncap : Int} {most : Nat} (hm : most ≤ 2000) (hz : zzB L = true) (h : sndB most L st ncap = true) : ∃ start : Nat, st = start ∧ SQ L ncap start := by
 have hz' := zz_of hz
 simp only [sndB, Bool.and_eq_true, decide_eq_true_eq] at h
 obtain ⟨⟨⟨⟨⟨⟨⟨h0, h5⟩, hf⟩, ht⟩, n0⟩, n1⟩, _⟩, hall, hr⟩ := h
 simp only [toB, decide_eq_true_eq] at ht
 have hO := out_of hall
 have hi : ∀ pc, pc < L.length → instB L ncap (inAt L pc) = true := fun pc hp => List.all_eq_true.1 hall _ (in_getD hp)
 have hl : ∀ pc, pc < L.length → (inAt L pc).f3.length ≤ 2147483647 := fun pc hp => hz' _ (in_getD hp)
 have hc : ∀ pc, pc < L.length → circB L.length L pc = false := fun pc hp => by
  have := List.all_eq_true.1 hr pc (by rw [List.mem_range'_1]; omega)
  simpa using this
 have hop : ∀ pc, pc < L.length → 0 ≤ (inAt L pc).f0 ∧ (inAt L pc).f0 ≤ 10 := fun pc hp => by
  have h := hi pc hp
  generalize inAt L pc = I at h
  unfold instB instR at h
  refine Decidable.byContradiction fun hn => ?_
  rw [if_neg (by omega)] at h
  rw [if_neg (by omega), if_neg (by omega), if_neg (by omega), if_neg (by omega), if_neg (by omega), if_neg (by omega), if_neg (by omega), if_neg (by omega)] at h
  simp at h
 refine ⟨st.toNat, by omega, ⟨hO, by omega, h0, hl, fun pc hp h8 => ?_, fun pc hp n4 n8 n9 n10 hw hlen => ?_, hf, by omega, n0, n1, fun i hil => ⟨(hop i hil).1, by have := (hop i hil).2; omega, fun h45 => ?_, hl i hil⟩, fun i hil => ?_, ?_, hc, hi⟩⟩
 ·have h := hi pc hp
  generalize inAt L pc = I at *
  unfold instB instR at h
  rw [if_neg (by omega), if_neg (by omega), if_neg (by omega), if_neg (by omega), if_neg (by omega), if_neg (by omega), if_neg (by omega), if_pos h8] at h
  simp only [Bool.and_eq_true, decide_eq_true_eq] at h
  omega
 ·have h := hi pc hp
  have hw' := wait_f (inAt L pc)
  rw [hw] at hw'
  generalize inAt L pc = I at *
  by_cases h45 : I.f0 = 4 ∨ I.f0 = 5
  ·unfold spec_progWaits.f at hw'
   simp [h45.resolve_left n4] at hw'
  ·unfold instB instR at h
   rw [if_neg h45] at h
   unfold spec_progWaits.f at hw'
   have a0 : ¬ I.f0 = 0 := fun e => by simp [e] at hw'
   have a2 : ¬ I.f0 = 2 := fun e => by simp [e] at hw'
   have a6 : ¬ I.f0 = 6 := fun e => by simp [e] at hw'
   have a3 : ¬ I.f0 = 3 := fun e => by simp [e] at hw'
   rw [if_neg a0, if_neg a2, if_neg a3, if_neg a6, if_neg n9, if_neg n10, if_neg n8] at h
   split at h
   ·simp only [Bool.and_eq_true, Bool.or_eq_true, decide_eq_true_eq] at h
    rcases h.2 with ⟨_, hr⟩ | ⟨_, hr⟩
    ·unfold runesF at hr
     rw [if_pos hlen, rd0] at hr
     simp only [Bool.and_eq_true, decide_eq_true_eq] at hr
     exact per_any _ hr.1 hr.2
    ·have := clsF_odd _ _ hr
     omega
   ·simp at h
 ·have := (hO i hil).1
  omega
 ·exact ev_ex (fit_ev L _ ncap _ (by have := hl i hil; unfold Fits; omega) (hi i hil))
 ·exact ev_ex (loops_f _ ncap hO (by omega) hc)
/-! The package's program. -/
theorem cvt0 (I : In) : (cvt I).f0 = I.f0 := by unfold cvt; split <;> rfl
theorem cvt1 {I : In} (h : I.f0 ≠ 4 ∧ I.f0 ≠ 5) : (cvt I).f1 = I.f1 ∧ (cvt I).f2 = IntKind.u32.wrap I.f2 ∧ (cvt I).f3 = I.f3 := by
 unfold cvt
 rw [if_neg (by omega)]
 exact ⟨rfl, rfl, rfl⟩
theorem at_cvt {L : List In} {pc : Nat} (hp : pc < L.length) : inAt (L.map cvt) pc = cvt (inAt L pc) := by
 simp [inAt, List.getD_eq_getElem?_getD, hp]
section
variable {L : List In} {ncap : Int} {start : Nat} (S : SQ L ncap start)
include S
theorem SQ.kout : OutOk (L.map cvt) := fun pc hp => by
 rw [List.length_map] at hp ⊢
 rw [at_cvt hp, cvt0]
 have ho := S.out pc hp
 have hl := S.len
 by_cases h45 : (inAt L pc).f0 = 4 ∨ (inAt L pc).f0 = 5
 ·exact ⟨by omega, fun h => by omega⟩
 ·obtain ⟨e1, e2, e3⟩ := cvt1 (I := inAt L pc) (by omega)
  rw [e1, e2]
  refine ⟨ho.1, fun h0 => ?_⟩
  have := ho.2 h0
  rw [show IntKind.u32.wrap (inAt L pc).f2 = (inAt L pc).f2 by rw [IntKind.wrap_u32]; omega]
  exact this
end
end Go.Proofs.YtcncclglmgdinaaDoor.Ps
namespace Go.Proofs.YtcncclglmgdinaaDoor.Ps
open Go.RowKit Mem Go.Proofs.YtcncclglmgdinaaDoor.Fold Go.Proofs.YtcncclglmgdinaaDoor.PFnPgStep Go.Proofs.YtcncclglmgdinaaDoorW.PrintWords Go.Proofs.YtcncclglmgdinaaDoorW.PrintLast Go.Proofs.YtcncclglmgdinaaDoorW.PrintMore
set_option linter.unusedVariables false
set_option linter.unusedSimpArgs false
theorem word_same (a : Int) : regexpsyntax_IsWordChar.f a = spec_reWord.f a := rfl
/-- The reference's bits, out of what is asked of the two characters. -/
def cB (n1 l1 n2 l2 wd : Bool) : Int :=
 let c0 := if n1 then bits .or .i64 0 4 else 0
 let c1 := if n1 || l1 then bits .or .i64 c0 1 else c0
 let c2 := if n2 then bits .or .i64 c1 8 else c1
 let c3 := if n2 || l2 then bits .or .i64 c2 2 else c2
 if wd then bits .or .i64 c3 16 else bits .or .i64 c3 32
/-- The package's answer, out of the same. -/
def m3 (x : Int) (wd : Bool) : Bool := if x = 0 then true else if wd then bits .andNot .u8 x 16 == 0 else bits .andNot .u8 x 32 == 0
def m2 (x : Int) (n2 wd : Bool) : Bool := if bits .and .u8 x 8 = 0 then m3 x wd else if !n2 then false else m3 (bits .andNot .u8 x 8) wd
def m1 (x : Int) (n2 l2 wd : Bool) : Bool := if x = 0 then true else if bits .and .u8 x 2 = 0 then m2 x n2 wd else if l2 then m2 (bits .andNot .u8 x 2) n2 wd else if !n2 then false else m2 (bits .andNot .u8 x 2) n2 wd
def m0 (x : Int) (n1 n2 l2 wd : Bool) : Bool := if bits .and .u8 x 4 = 0 then m1 x n2 l2 wd else if !n1 then false else m1 (bits .andNot .u8 x 4) n2 l2 wd
def mB (x : Int) (n1 l1 n2 l2 wd : Bool) : Bool := if x = 0 then true else if bits .and .u8 x 1 = 0 then m0 x n1 n2 l2 wd else if l1 then m0 (bits .andNot .u8 x 1) n1 n2 l2 wd else if !n1 then false else m0 (bits .andNot .u8 x 1) n1 n2 l2 wd
theorem mB_all : ∀ (x : Fin 64) (n1 l1 n2 l2 wd : Bool), x.val ≠ 0 → (n1 && l1) = false → (n2 && l2) = false → mB (x.val : Int) n1 l1 n2 l2 wd = (bits .and .i64 (cB n1 l1 n2 l2 wd) (x.val : Int) == (x.val : Int)) := by decide +kernel
def wordF (a : Int) : Bool := (spec_reWord.f a).getD false
theorem word_F (a : Int) : spec_reWord.f a = some (wordF a) := by
 obtain ⟨r, hr⟩ := word_f a
 unfold wordF
 rw [hr]; rfl
theorem cond_cB (r1 r2 : Int) : spec_CondBetween.f 10 r1 r2 = some (cB (r1 == -1) (r1 == 10) (r2 == -1) (r2 == 10) (wordF r1 != wordF r2)) := by
 have h5 : ∀ k x, spec_CondBetween.j5 (k + 1) r1 r2 x = some (if (wordF r1 != wordF r2) = true then bits .or .i64 x 16 else bits .or .i64 x 32) := fun k x => by
  simp only [spec_CondBetween.j5, word_F, Option.bind_some]
  split <;> rfl
 have h4 : ∀ k x (b : Bool), spec_CondBetween.j4 (k + 2) r1 r2 x b = spec_CondBetween.j5 (k + 1) r1 r2 (if b = true then bits .or .i64 x 2 else x) := fun k x b => by
  simp only [spec_CondBetween.j4]
  split <;> rfl
 have h3 : ∀ k x, spec_CondBetween.j3 (k + 3) r1 r2 x = spec_CondBetween.j4 (k + 2) r1 r2 x (r2 == -1 || r2 == 10) := fun k x => by
  simp only [spec_CondBetween.j3]
  split
  ·rename_i h; subst h; rfl
  ·rename_i h
   rw [show (r2 == -1) = false by simpa using h]; rfl
 have h2 : ∀ k x, spec_CondBetween.j2 (k + 4) r1 r2 x = spec_CondBetween.j3 (k + 3) r1 r2 (if (r2 == -1) = true then bits .or .i64 x 8 else x) := fun k x => by
  simp only [spec_CondBetween.j2]
  split
  ·rename_i h; subst h; rfl
  ·rename_i h
   rw [show (r2 == -1) = false by simpa using h]; rfl
 have h1 : ∀ k x (b : Bool), spec_CondBetween.j1 (k + 5) r1 r2 x b = spec_CondBetween.j2 (k + 4) r1 r2 (if b = true then bits .or .i64 x 1 else x) := fun k x b => by
  simp only [spec_CondBetween.j1]
  split <;> rfl
 have h0 : ∀ k x, spec_CondBetween.j0 (k + 6) r1 r2 x = spec_CondBetween.j1 (k + 5) r1 r2 x (r1 == -1 || r1 == 10) := fun k x => by
  simp only [spec_CondBetween.j0]
  split
  ·rename_i h; subst h; rfl
  ·rename_i h
   rw [show (r1 == -1) = false by simpa using h]; rfl
 have hf : spec_CondBetween.f 10 r1 r2 = spec_CondBetween.j0 10 r1 r2 (if (r1 == -1) = true then bits .or .i64 0 4 else 0) := by
  unfold spec_CondBetween.f
  split
  ·rename_i h; subst h; rfl
  ·rename_i h
   rw [show (r1 == -1) = false by simpa using h]; rfl
 rw [hf, h0 4, h1 4, h2 4, h3 4, h4 4, h5 4]
 rfl
section
variable (r1 r2 fl : Int) (h1 : -1 ≤ r1) (h2 : -1 ≤ r2) (e1 : wrap32 (fl / 4294967296) = r1) (e2 : wrap32 fl = r2)
include h1 h2 e1 e2
omit h1 h2 e1 e2 in
theorem j3_m (k : Nat) (x : Int) : regexp_lazyFlag_match.j3 (k + 1) x r1 r2 = some (m3 x (wordF r1 != wordF r2)) := by
 simp only [regexp_lazyFlag_match.j3, word_same, word_F, Option.bind_some, m3]
 by_cases hx : x = 0
 ·simp only [if_pos hx]
 ·simp only [if_neg hx]
  split <;> rfl
omit h1 e1 in
theorem j2_m (k : Nat) (x : Int) : regexp_lazyFlag_match.j2 (k + 2) x r1 r2 = some (m2 x (r2 == -1) (wordF r1 != wordF r2)) := by
 simp only [regexp_lazyFlag_match.j2, m2]
 split
 ·rw [j3_m r1 r2]
 ·by_cases hr : r2 ≥ 0
  ·rw [if_pos hr, show (r2 == -1) = false by rw [beq_eq_false_iff_ne]; omega]; rfl
  ·rw [if_neg hr, show (r2 == -1) = true by rw [beq_iff_eq]; omega, j3_m r1 r2]; rfl
omit h1 e1 in
theorem j1_m (k : Nat) (x : Int) : regexp_lazyFlag_match.j1 (k + 3) fl x r1 = some (m1 x (r2 == -1) (r2 == 10) (wordF r1 != wordF r2)) := by
 simp only [regexp_lazyFlag_match.j1, m1, e2]
 split
 ·rfl
 ·split
  ·rw [j2_m r1 r2 fl h2 e2]
  ·by_cases h10 : r2 = 10
   ·rw [if_pos h10, show (r2 == 10) = true by simpa using h10, j2_m r1 r2 fl h2 e2]; rfl
   ·rw [if_neg h10, show (r2 == 10) = false by simpa using h10]
    by_cases hr : r2 ≥ 0
    ·rw [if_pos hr, show (r2 == -1) = false by rw [beq_eq_false_iff_ne]; omega]; rfl
    ·rw [if_neg hr, show (r2 == -1) = true by rw [beq_iff_eq]; omega, j2_m r1 r2 fl h2 e2, show (r2 == -1) = true by rw [beq_iff_eq]; omega]; rfl
theorem j0_m (k : Nat) (x : Int) : regexp_lazyFlag_match.j0 (k + 4) fl x r1 = some (m0 x (r1 == -1) (r2 == -1) (r2 == 10) (wordF r1 != wordF r2)) := by
 simp only [regexp_lazyFlag_match.j0, m0]
 split
 ·rw [j1_m r1 r2 fl h2 e2]
 ·by_cases hr : r1 ≥ 0
  ·rw [if_pos hr, show (r1 == -1) = false by rw [beq_eq_false_iff_ne]; omega]; rfl
  ·rw [if_neg hr, show (r1 == -1) = true by rw [beq_iff_eq]; omega, j1_m r1 r2 fl h2 e2]; rfl
theorem match_m (x : Int) : regexp_lazyFlag_match.f 10 fl x = some (mB x (r1 == -1) (r1 == 10) (r2 == -1) (r2 == 10) (wordF r1 != wordF r2)) := by
 unfold regexp_lazyFlag_match.f mB
 simp only [e1]
 split
 ·rfl
 ·split
  ·rw [j0_m r1 r2 fl h1 h2 e1 e2 6]
  ·by_cases h10 : r1 = 10
   ·rw [if_pos h10, show (r1 == 10) = true by simpa using h10, j0_m r1 r2 fl h1 h2 e1 e2 6]; rfl
   ·rw [if_neg h10, show (r1 == 10) = false by simpa using h10]
    by_cases hr : r1 ≥ 0
    ·rw [if_pos hr, show (r1 == -1) = false by rw [beq_eq_false_iff_ne]; omega]; rfl
    ·rw [if_neg hr, show (r1 == -1) = true by rw [beq_iff_eq]; omega, j0_m r1 r2 fl h1 h2 e1 e2 6, show (r1 == -1) = true by rw [beq_iff_eq]; omega]; rfl
end
theorem or_disj (a b : Nat) (ha : a < 4294967296) (hb : b < 4294967296) : bits .or .u64 ((a : Int) * 4294967296) (b : Int) = (a : Int) * 4294967296 + b := by
 have e1 : (BitVec.ofInt 64 ((a : Int) * 4294967296)).toNat = a * 4294967296 := by
  rw [BitVec.toNat_ofInt]
  omega
 have e2 : (BitVec.ofInt 64 (b : Int)).toNat = b := by
  rw [BitVec.toNat_ofInt]
  omega
 have e3 : (BitVec.ofInt 64 ((a : Int) * 4294967296) ||| BitVec.ofInt 64 (b : Int)).toNat = a * 4294967296 + b := by
  rw [BitVec.toNat_or, e1, e2, Nat.mul_comm]
  exact (Nat.two_pow_add_eq_or_of_lt (i := 32) hb a).symm
 show IntKind.u64.wrap ((BitVec.ofInt 64 ((a : Int) * 4294967296) ||| BitVec.ofInt 64 (b : Int)).toNat : Int) = _
 rw [e3, IntKind.wrap_u64]
 omega
/-- The flag of two characters, and what it gives back. -/
def flagF (r1 r2 : Int) : Int := (r1 % 4294967296) * 4294967296 + r2 % 4294967296
theorem flag_f (r1 r2 : Int) : regexp_newLazyFlag.f r1 r2 = some (flagF r1 r2) := by
 unfold regexp_newLazyFlag.f flagF
 have h := or_disj (r1 % 4294967296).toNat (r2 % 4294967296).toNat (by omega) (by omega)
 rw [Int.toNat_of_nonneg (by omega), Int.toNat_of_nonneg (by omega)] at h
 rw [← h, IntKind.wrap_u64, IntKind.wrap_u64]
 congr 2
 omega
theorem flag_e1 {r1 : Int} (r2 : Int) (h : -2147483648 ≤ r1 ∧ r1 ≤ 2147483647) : wrap32 (flagF r1 r2 / 4294967296) = r1 := by
 unfold flagF wrap32
 omega
theorem flag_e2 (r1 : Int) {r2 : Int} (h : -2147483648 ≤ r2 ∧ r2 ≤ 2147483647) : wrap32 (flagF r1 r2) = r2 := by
 unfold flagF wrap32
 omega
/-- What the lazy flag of two characters tells of a condition. -/
theorem flag_match (r1 r2 op : Int) (h1 : -1 ≤ r1 ∧ r1 ≤ 1114111) (h2 : -1 ≤ r2 ∧ r2 ≤ 1114111) (ho : 0 < op ∧ op < 64) (cond : Int) (hc : spec_CondBetween.f 10 r1 r2 = some cond) :
  regexp_lazyFlag_match.f 10 (flagF r1 r2) op = some (bits .and .i64 cond op == op) := by
 rw [cond_cB] at hc
 obtain rfl := Option.some.inj hc
 rw [match_m r1 r2 (flagF r1 r2) h1.1 h2.1 (flag_e1 r2 (by omega)) (flag_e2 r1 (by omega)) op]
 have h := mB_all ⟨op.toNat, by omega⟩ (r1 == -1) (r1 == 10) (r2 == -1) (r2 == 10) (wordF r1 != wordF r2) (by simp only; omega) (by
  by_cases e : r1 = -1
  ·subst e; rfl
  ·rw [show (r1 == -1) = false by simpa using e]; rfl) (by
  by_cases e : r2 = -1
  ·subst e; rfl
  ·rw [show (r2 == -1) = false by simpa using e]; rfl)
 simp only at h
 rw [Int.toNat_of_nonneg (by omega)] at h
 rw [h]
end Go.Proofs.YtcncclglmgdinaaDoor.Ps
