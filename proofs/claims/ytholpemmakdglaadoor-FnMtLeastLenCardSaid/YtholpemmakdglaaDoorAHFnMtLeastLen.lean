/- What the law's reference says of a tree, and what the thin package's bounds and the package's look at its repeats make of it: in plain numbers. A tree that the law lets in is one that the thin package takes. The reference's look at the characters of a tree's literals. The law on the least length of a tree. -/
import Derived.Test.YtholpemmakdglaaDoorAEFnMtLeastLen
import Derived.Test.YtholpemmakdglaaDoorACFnMtLeastLen
import Derived.Test.YtholpemmakdglaaDoorOrbB
import Derived.Deep.DeepCutAuto
import Derived.Deep.CutBlock
import Derived.Deep.LoopGhost
import Derived.Test.YtholpemmakdglaaDoorAFFnMtLeastLen
import Derived.Test.YtholpemmakdglaaDoorAGFnMtLeastLen
namespace Go.Proofs.YtholpemmakdglaaDoor.PFnMtLeastLen
open Go.RowKit Go.Proofs.YtholpemmakdglaaDoorW.PrintWords Go.Proofs.YtholpemmakdglaaDoorW.PrintLast Go.Proofs.YtholpemmakdglaaDoorW.PrintMore
set_option linter.unusedVariables false
mutual
theorem ncT_pos' : ∀ t : Tr, 1 ≤ ncT t
  | ⟨_, _, _, _, _, _, _, ts⟩ => by rw [ncT]; omega
end
/-- A sum over the parts stays at least what it was, and is not negative. -/
theorem mn_le (a b : Int) : mn a b ≤ a ∧ mn a b ≤ b ∧ (mn a b = a ∨ mn a b = b) := by unfold mn; split <;> omega
theorem mx_ge (a b : Int) : a ≤ mx a b ∧ b ≤ mx a b ∧ (mx a b = a ∨ mx a b = b) := by unfold mx; split <;> omega
/-- Bounds of one node's size. -/
theorem sizeE_bd (op : Int) (len : Nat) (m0 m1 : Int) (sub : Nat) (acc : Int) (hl : Room len 4) (hs : Room sub 8) (ha : 0 ≤ acc) (ha1 : acc ≤ 401) (h0 : op = 17 → 0 ≤ m0 ∧ m0 ≤ 1000 ∧ -1 ≤ m1 ∧ m1 ≤ 1000) (hlen : op = 3 → acc = 0) :
    0 ≤ sizeE op len m0 m1 sub acc 400 ∧ sizeE op len m0 m1 sub acc 400 ≤ 401 ∧ (sizeE op len m0 m1 sub acc 400 ≤ 400 → acc + 2 ≤ sizeE op len m0 m1 sub acc 400 ∧ (op = 17 → (acc + 1) * mx (mx (m0 + 1) m1) 1 ≤ sizeE op len m0 m1 sub acc 400)) := by
  have hw : wrap64 (400 + 1) = 401 := by unfold wrap64; omega
  unfold Room at hl hs
  have hw1 : wrap64 (acc + 1) = acc + 1 := by unfold wrap64; omega
  have hw2 : wrap64 (acc + 2) = acc + 2 := by unfold wrap64; omega
  have hw3 : wrap64 (acc + (sub : Int)) = acc + sub := by unfold wrap64; omega
  have hw4 : wrap64 (acc + (sub : Int) + 2) = acc + sub + 2 := by unfold wrap64; omega
  unfold sizeE
  rw [hw]
  by_cases h17 : op = 17
  · rw [if_pos h17]
    obtain ⟨a1, a2, a3, a4⟩ := h0 h17
    have hw5 : wrap64 (m0 + 1) = m0 + 1 := by unfold wrap64; omega
    rw [hw1, hw5]
    obtain ⟨F, hF⟩ : ∃ F, F = mx (mx (m0 + 1) m1) 1 := ⟨_, rfl⟩
    rw [← hF]
    have hF1 : 1 ≤ F := by rw [hF]; exact (mx_ge _ _).2.1
    have hF2 : F ≤ 1001 := by
      rw [hF]; unfold mx
      repeat' split
      all_goals omega
    have hp0 : (acc + 1) * 1 ≤ (acc + 1) * F := Int.mul_le_mul_of_nonneg_left hF1 (by omega)
    have hp1 : (acc + 1) * F ≤ 402 * 1001 := Int.mul_le_mul (by omega) hF2 (by omega) (by omega)
    generalize (acc + 1) * F = X at *
    have hw6 : wrap64 X = X := by unfold wrap64; omega
    rw [hw6]
    obtain ⟨b1, b2, b3⟩ := mn_le X 401
    generalize mn X 401 = Y at *
    have hw7 : wrap64 (Y + 2) = Y + 2 := by unfold wrap64; omega
    rw [hw7]
    obtain ⟨c1, c2, c3⟩ := mn_le (Y + 2) 401
    generalize mn (Y + 2) 401 = Z at *
    refine ⟨by omega, by omega, fun hZ => ⟨by omega, fun _ => by omega⟩⟩
  · rw [if_neg h17]
    by_cases h3 : op = 3
    · rw [if_pos h3]
      have l2 := hlen h3
      have hw8 : wrap64 ((len : Int) + 2) = len + 2 := by unfold wrap64; omega
      rw [hw8]
      obtain ⟨c1, c2, c3⟩ := mn_le ((len : Int) + 2) 401
      exact ⟨by omega, by omega, fun hZ => ⟨by omega, fun h => absurd h h17⟩⟩
    · rw [if_neg h3]
      split
      · rw [hw3, hw4]
        obtain ⟨c1, c2, c3⟩ := mn_le (acc + (sub : Int) + 2) 401
        exact ⟨by omega, by omega, fun hZ => ⟨by omega, fun h => absurd h h17⟩⟩
      · rw [hw2]
        obtain ⟨c1, c2, c3⟩ := mn_le (acc + 2) 401
        exact ⟨by omega, by omega, fun hZ => ⟨by omega, fun h => absurd h h17⟩⟩
/-- The numbers of a tree's groups. -/
def cpP (B : Int) (op cp : Int) : Prop := op = 13 → 1 ≤ cp ∧ cp ≤ B
mutual
def cpT (B : Int) : Tr → Prop
  | ⟨op, _, _, _, _, cp, _, ts⟩ => cpP B op cp ∧ cpL B ts
def cpL (B : Int) : List Tr → Prop
  | [] => True
  | t :: ts => cpT B t ∧ cpL B ts
end
mutual
theorem caps_ok (B : Int) (hB : B ≤ 1000000) : ∀ (t : Tr) (n : Int), 1 ≤ n → n + ncT t ≤ B + 1 → 0 ≤ capsT t n → cpT B t ∧ n ≤ capsT t n ∧ capsT t n ≤ n + ncT t
  | ⟨op, fl, rs, m0, m1, cp, nm, ts⟩, n, h1, hn, hc => by
    rw [ncT] at hn
    rw [capsT] at hc ⊢
    rw [cpT, ncT]
    by_cases h13 : op = 13
    · rw [if_pos h13] at hc ⊢
      by_cases hcn : cp = n
      · rw [if_pos hcn] at hc ⊢
        have hw : wrap64 (n + 1) = n + 1 := by unfold wrap64; omega
        rw [hw] at hc ⊢
        obtain ⟨a, b, c⟩ := capsL_ok B hB ts (n + 1) (by omega) (by omega) hc
        exact ⟨⟨fun _ => by omega, a⟩, by omega, by omega⟩
      · rw [if_neg hcn] at hc; omega
    · rw [if_neg h13] at hc ⊢
      obtain ⟨a, b, c⟩ := capsL_ok B hB ts n h1 (by omega) hc
      exact ⟨⟨fun h => absurd h h13, a⟩, by omega, by omega⟩
theorem capsL_ok (B : Int) (hB : B ≤ 1000000) : ∀ (ts : List Tr) (n : Int), 1 ≤ n → n + ncL ts ≤ B + 1 → 0 ≤ capsL ts n → cpL B ts ∧ n ≤ capsL ts n ∧ capsL ts n ≤ n + ncL ts
  | [], n, h1, hn, hc => by
    rw [capsL] at hc ⊢
    rw [ncL] at hn ⊢
    rw [cpL]
    exact ⟨trivial, by omega, by omega⟩
  | t :: ts, n, h1, hn, hc => by
    rw [ncL] at hn ⊢
    rw [capsL] at hc ⊢
    rw [cpL]
    by_cases hneg : capsT t n < 0
    · rw [if_pos hneg] at hc; omega
    · rw [if_neg hneg] at hc ⊢
      obtain ⟨a, b, c⟩ := caps_ok B hB t n h1 (by omega) (by omega)
      obtain ⟨a', b', c'⟩ := capsL_ok B hB ts (capsT t n) (by omega) (by omega) hc
      exact ⟨⟨a, a'⟩, by omega, by omega⟩
end
/-- What the reference's look at a node says of it. -/
theorem nd_split {op : Int} {rs : List Int} {m0 m1 : Int} {sub : Nat} (h : ndF op rs m0 m1 sub = true) :
    (arF op).1 ≤ sub ∧ ((arF op).2 < 0 ∨ (sub : Int) ≤ (arF op).2) ∧ (op = 3 → chrF rs = true ∧ 0 < (rs.length : Int)) ∧ (op = 4 → clsF (-1) rs = true) ∧ (op = 17 → 0 ≤ m0 ∧ m0 ≤ 1000 ∧ -1 ≤ m1 ∧ m1 ≤ 1000 ∧ (m1 = -1 ∨ m0 ≤ m1)) := by
  unfold ndF at h
  by_cases hc : (sub : Int) < (arF op).1 ∨ ((arF op).2 ≥ 0 ∧ (sub : Int) > (arF op).2)
  · rw [if_pos hc] at h; cases h
  rw [if_neg hc] at h
  refine ⟨by omega, by omega, ?_⟩
  by_cases h3 : op = 3
  · rw [if_pos h3] at h
    simp only [Bool.and_eq_true, decide_eq_true_eq] at h
    exact ⟨fun _ => ⟨h.1, by omega⟩, fun h' => by omega, fun h' => by omega⟩
  rw [if_neg h3] at h
  by_cases h4 : op = 4
  · rw [if_pos h4] at h
    exact ⟨fun h' => by omega, fun _ => h, fun h' => by omega⟩
  rw [if_neg h4] at h
  by_cases h17 : op = 17
  · rw [if_pos h17] at h
    simp only [Bool.and_eq_true, Bool.or_eq_true, decide_eq_true_eq] at h
    exact ⟨fun h' => by omega, fun h' => by omega, fun _ => by omega⟩
  · exact ⟨fun h' => by omega, fun h' => by omega, fun h' => absurd h' h17⟩
theorem ar_11 {op : Int} (h : op = 13 ∨ op = 14 ∨ op = 15 ∨ op = 16 ∨ op = 17) : arF op = (1, 1) := by unfold arF; rw [if_pos h]
theorem ar_00 {op : Int} (h : 1 ≤ op ∧ op ≤ 12) : arF op = (0, 0) := by
  unfold arF
  rw [if_neg (show ¬ (op = 13 ∨ op = 14 ∨ op = 15 ∨ op = 16 ∨ op = 17) by omega), if_neg (show ¬ op = 18 by omega), if_neg (show ¬ op = 19 by omega), if_pos h]
theorem ar_19 : arF 19 = (1, -1) := by decide
theorem ar_10 {op : Int} (h : ¬ (1 ≤ op ∧ op ≤ 19)) : arF op = (1, 0) := by
  unfold arF
  rw [if_neg (show ¬ (op = 13 ∨ op = 14 ∨ op = 15 ∨ op = 16 ∨ op = 17) by omega), if_neg (show ¬ op = 18 by omega), if_neg (show ¬ op = 19 by omega), if_neg (show ¬ (1 ≤ op ∧ op ≤ 12) by omega)]
theorem nd_rep {op : Int} {rs : List Int} {m0 m1 : Int} {sub : Nat} (h : ndF op rs m0 m1 sub = true) : op = 17 → 0 ≤ m0 ∧ m0 ≤ 1000 ∧ -1 ≤ m1 ∧ m1 ≤ 1000 ∧ (m1 = -1 ∨ m0 ≤ m1) := (nd_split h).2.2.2.2
theorem nd_lit {op : Int} {rs : List Int} {m0 m1 : Int} {sub : Nat} (h : ndF op rs m0 m1 sub = true) : op = 3 → sub = 0 := by
  intro h3
  obtain ⟨h1, h2, _⟩ := nd_split h
  rw [ar_00 (by omega)] at h1 h2
  simp at h1 h2
  omega
theorem snd_of {op : Int} {rs : List Int} {m0 m1 cp : Int} {sub : Nat} (h : ndF op rs m0 m1 sub = true) (hcp : cpP 1000 op cp) : sndF op rs m0 m1 cp sub = true := by
  obtain ⟨a1, a2, n3, n4, n17⟩ := nd_split h
  clear h
  unfold sndF
  unfold cpP at hcp
  by_cases h1 : op = 1 ∨ op = 2 ∨ (5 ≤ op ∧ op ≤ 12)
  · rw [if_pos h1]
    rw [ar_00 (by omega)] at a1 a2
    simp at a1 a2 ⊢
    omega
  rw [if_neg h1]
  by_cases h3 : op = 3
  · rw [if_pos h3]
    rw [ar_00 (by omega)] at a1 a2
    obtain ⟨b1, b2⟩ := n3 h3
    simp only [Bool.and_eq_true, decide_eq_true_eq, beq_iff_eq]
    simp at a1 a2
    exact ⟨⟨by omega, b1⟩, by omega⟩
  rw [if_neg h3]
  by_cases h4 : op = 4
  · rw [if_pos h4]
    rw [ar_00 (by omega)] at a1 a2
    simp only [Bool.and_eq_true, beq_iff_eq]
    simp at a1 a2
    exact ⟨n4 h4, by omega⟩
  rw [if_neg h4]
  by_cases h13 : op = 13
  · rw [if_pos h13]
    rw [ar_11 (by omega)] at a1 a2
    obtain ⟨b1, b2⟩ := hcp h13
    simp only [Bool.and_eq_true, decide_eq_true_eq, beq_iff_eq]
    simp at a1 a2
    omega
  rw [if_neg h13]
  by_cases h14 : op = 14 ∨ op = 15 ∨ op = 16
  · rw [if_pos h14]
    rw [ar_11 (by omega)] at a1 a2
    simp only [beq_iff_eq]
    simp at a1 a2
    omega
  rw [if_neg h14]
  by_cases h17 : op = 17
  · rw [if_pos h17]
    rw [ar_11 (by omega)] at a1 a2
    obtain ⟨b1, b2, b3, b4, b5⟩ := n17 h17
    simp only [Bool.and_eq_true, Bool.or_eq_true, decide_eq_true_eq, beq_iff_eq]
    simp at a1 a2
    omega
  rw [if_neg h17]
  by_cases h18 : op = 18
  · rw [if_pos h18]
  rw [if_neg h18]
  by_cases h19 : op = 19
  · rw [if_pos h19]
    rw [h19, ar_19] at a1
    simp at a1 ⊢
    omega
  · exfalso
    rw [ar_10 (by omega)] at a1 a2
    simp at a1 a2
    omega
end Go.Proofs.YtholpemmakdglaaDoor.PFnMtLeastLen
namespace Go.Proofs.YtholpemmakdglaaDoor.PFnMtLeastLen
open Go.RowKit Go.Proofs.YtholpemmakdglaaDoorW.PrintWords Go.Proofs.YtholpemmakdglaaDoorW.PrintLast Go.Proofs.YtholpemmakdglaaDoorW.PrintMore
set_option linter.unusedVariables false
theorem sd_split {op fl : Int} {rs : List Int} {m0 m1 cp : Int} {nm : ByteArray} {ts : List Tr} {d : Int} (h : sdT ⟨op, fl, rs, m0, m1, cp, nm, ts⟩ d = true) : 0 ≤ d ∧ ndF op rs m0 m1 ts.length = true ∧ sdL ts d = true := by
  rw [sdT] at h
  by_cases h1 : d < 0
  · rw [if_pos h1] at h; cases h
  rw [if_neg h1] at h
  by_cases h2 : ndF op rs m0 m1 ts.length = true
  · rw [if_pos h2] at h; exact ⟨by omega, h2, h⟩
  · rw [if_neg h2] at h; cases h
theorem sdL_split {t : Tr} {ts : List Tr} {d : Int} (h : sdL (t :: ts) d = true) : sdT t (wrap64 (d - 1)) = true ∧ sdL ts d = true := by
  rw [sdL] at h
  by_cases h1 : sdT t (wrap64 (d - 1)) = true
  · rw [if_pos h1] at h; exact ⟨h1, h⟩
  · rw [if_neg h1] at h; cases h
theorem step_bd {acc s : Int} (h0 : 0 ≤ acc) (h1 : acc ≤ 401) (h2 : 0 ≤ s) (h3 : s ≤ 401) : 0 ≤ mn (wrap64 (acc + s)) (wrap64 (400 + 1)) ∧ mn (wrap64 (acc + s)) (wrap64 (400 + 1)) ≤ 401 ∧ acc ≤ mn (wrap64 (acc + s)) (wrap64 (400 + 1)) ∧ (mn (wrap64 (acc + s)) (wrap64 (400 + 1)) ≤ 400 → mn (wrap64 (acc + s)) (wrap64 (400 + 1)) = acc + s) := by
  have hw : wrap64 (400 + 1) = 401 := by unfold wrap64; omega
  have hw1 : wrap64 (acc + s) = acc + s := by unfold wrap64; omega
  rw [hw, hw1]
  obtain ⟨a, b, c⟩ := mn_le (acc + s) 401
  exact ⟨by omega, by omega, by omega, fun _ => by omega⟩
mutual
theorem size_ok : ∀ (t : Tr) (d : Int), szT t → d ≤ 100 → sdT t d = true → 0 ≤ sizeT t 400 ∧ sizeT t 400 ≤ 401 ∧ (sizeT t 400 ≤ 400 → wgT t ≤ sizeT t 400 ∧ 2 * (ncT t : Int) ≤ sizeT t 400)
  | ⟨op, fl, rs, m0, m1, cp, nm, ts⟩, d, hz, hd, hs => by
    obtain ⟨d0, hnd, hsl⟩ := sd_split hs
    rw [szT] at hz
    obtain ⟨a0, a1, _, a2⟩ := sizeL_ok ts d 0 hz.2.2 d0 hd hsl (by omega) (by omega)
    have h3 : op = 3 → sizeL ts 400 0 = 0 := fun h3 => by
      have := nd_lit hnd h3
      have : ts = [] := List.length_eq_zero_iff.1 this
      subst this
      rw [sizeL]
    have hrep := nd_rep hnd
    rw [sizeT, wgT, ncT]
    obtain ⟨b0, b1, b2⟩ := sizeE_bd op rs.length m0 m1 ts.length (sizeL ts 400 0) hz.1 hz.2.1 a0 a1 (fun h => by have := hrep h; omega) h3
    refine ⟨b0, b1, fun hle => ?_⟩
    obtain ⟨c1, c2⟩ := b2 hle
    obtain ⟨e1, e2⟩ := a2 (by omega)
    have e1' := e1 1
    have hw1 := wgL_ge ts 1
    refine ⟨?_, by omega⟩
    by_cases h17 : op = 17
    · have hX := c2 h17
      obtain ⟨r0, r1, r2, r3, _⟩ := hrep h17
      have hf : facT op m0 m1 ≤ mx (mx (m0 + 1) m1) 1 := by
        unfold facT
        rw [if_pos h17]
        obtain ⟨x1, x2, x3⟩ := mx_ge (mx (m0 + 1) m1) 1
        obtain ⟨y1, y2, y3⟩ := mx_ge (m0 + 1) m1
        obtain ⟨z1, z2, z3⟩ := mx_ge (mx m1 m0) 1
        obtain ⟨u1, u2, u3⟩ := mx_ge m1 m0
        omega
      have hf1 := facT_ge op m0 m1
      have : wgL ts 1 * facT op m0 m1 ≤ (sizeL ts 400 0 + 1) * mx (mx (m0 + 1) m1) 1 := Int.mul_le_mul (by omega) hf (by omega) (by omega)
      omega
    · have : facT op m0 m1 = 1 := by unfold facT; rw [if_neg h17]
      rw [this]
      omega
theorem sizeL_ok : ∀ (ts : List Tr) (d acc : Int), szL ts → 0 ≤ d → d ≤ 100 → sdL ts d = true → 0 ≤ acc → acc ≤ 401 → 0 ≤ sizeL ts 400 acc ∧ sizeL ts 400 acc ≤ 401 ∧ acc ≤ sizeL ts 400 acc ∧
    (sizeL ts 400 acc ≤ 400 → (∀ a, wgL ts a ≤ a + (sizeL ts 400 acc - acc)) ∧ 2 * (ncL ts : Int) ≤ sizeL ts 400 acc - acc)
  | [], d, acc, hz, h0, hd, hs, ha, ha1 => by
    rw [sizeL, ncL]
    exact ⟨by omega, by omega, by omega, fun _ => ⟨fun a => by rw [wgL]; omega, by simp⟩⟩
  | t :: ts, d, acc, hz, h0, hd, hs, ha, ha1 => by
    obtain ⟨hs1, hs2⟩ := sdL_split hs
    rw [szL] at hz
    have hw : wrap64 (d - 1) = d - 1 := by unfold wrap64; omega
    rw [hw] at hs1
    obtain ⟨b0, b1, b2⟩ := size_ok t (d - 1) hz.1 (by omega) hs1
    rw [sizeL, ncL]
    obtain ⟨s0, s1, s2, s3⟩ := step_bd ha ha1 b0 b1
    obtain ⟨c0, c1, c2, c3⟩ := sizeL_ok ts d _ hz.2 h0 hd hs2 s0 s1
    refine ⟨c0, c1, by omega, fun hle => ?_⟩
    obtain ⟨e1, e2⟩ := c3 hle
    have hm := s3 (by omega)
    obtain ⟨f1, f2⟩ := b2 (by omega)
    refine ⟨fun a => ?_, by omega⟩
    rw [wgL]
    have := e1 (a + wgT t)
    omega
end
mutual
theorem gd_ok : ∀ (t : Tr) (d : Int) (h : Nat), szT t → d ≤ 100 → sdT t d = true → (h : Int) + d ≤ 101 → cpT 1000 t → sizeT t 400 ≤ 400 → gdT t h
  | ⟨op, fl, rs, m0, m1, cp, nm, ts⟩, d, h, hz, hd, hs, hh, hc, hle => by
    have hsz := (size_ok ⟨op, fl, rs, m0, m1, cp, nm, ts⟩ d hz hd hs).2.2 hle
    obtain ⟨d0, hnd, hsl⟩ := sd_split hs
    rw [szT] at hz
    rw [cpT] at hc
    obtain ⟨a0, a1, _, a2⟩ := sizeL_ok ts d 0 hz.2.2 d0 hd hsl (by omega) (by omega)
    have h3 : op = 3 → sizeL ts 400 0 = 0 := fun h3 => by
      have := nd_lit hnd h3
      have : ts = [] := List.length_eq_zero_iff.1 this
      subst this
      rw [sizeL]
    have hrep := nd_rep hnd
    have hle' := hle
    rw [sizeT] at hle'
    obtain ⟨b0, b1, b2⟩ := sizeE_bd op rs.length m0 m1 ts.length (sizeL ts 400 0) hz.1 hz.2.1 a0 a1 (fun h => by have := hrep h; omega) h3
    have c1 := (b2 hle').1
    have hw := hsz.1
    rw [wgT] at hw
    rw [gdT]
    exact ⟨by omega, snd_of hnd hc.1, fun h => by have := hrep h; omega, by omega, gdL_ok ts d (h + 1) 0 hz.2.2 d0 hd hsl (by omega) hc.2 (by omega) (by omega) (by omega)⟩
theorem gdL_ok : ∀ (ts : List Tr) (d : Int) (h : Nat) (acc : Int), szL ts → 0 ≤ d → d ≤ 100 → sdL ts d = true → (h : Int) + d ≤ 102 → cpL 1000 ts → 0 ≤ acc → acc ≤ 401 → sizeL ts 400 acc ≤ 400 → gdL ts h
  | [], d, h, acc, _, _, _, _, _, _, _, _, _ => by rw [gdL]; trivial
  | t :: ts, d, h, acc, hz, h0, hd, hs, hh, hc, ha, ha1, hle => by
    obtain ⟨hs1, hs2⟩ := sdL_split hs
    rw [szL] at hz
    rw [cpL] at hc
    have hw : wrap64 (d - 1) = d - 1 := by unfold wrap64; omega
    rw [hw] at hs1
    obtain ⟨b0, b1, b2⟩ := size_ok t (d - 1) hz.1 (by omega) hs1
    rw [sizeL] at hle
    obtain ⟨s0, s1, s2, s3⟩ := step_bd ha ha1 b0 b1
    obtain ⟨c0, c1, c2, c3⟩ := sizeL_ok ts d _ hz.2 h0 hd hs2 s0 s1
    have hm := s3 (by omega)
    rw [gdL]
    exact ⟨gd_ok t (d - 1) h hz.1 (by omega) hs1 (by omega) hc.1 (by omega), gdL_ok ts d h _ hz.2 h0 hd hs2 hh hc.2 s0 s1 hle⟩
end
end Go.Proofs.YtholpemmakdglaaDoor.PFnMtLeastLen
namespace Go.Proofs.YtholpemmakdglaaDoor.PFnMtLeastLen
open Go.RowKit Go.Proofs.YtholpemmakdglaaDoorW.PrintWords Go.Proofs.YtholpemmakdglaaDoorW.PrintLast Go.Proofs.YtholpemmakdglaaDoorW.PrintMore
open Fold (FoldV Per itF sf_any per_any)
set_option linter.unusedVariables false
set_option linter.unusedSimpArgs false
set_option maxRecDepth 100000 in
set_option maxHeartbeats 1000000 in
theorem reLeast_any (r : Int) (w : World) {B p : Nat} (hF : FoldV B w) (hp : Per r p) :
    Calls Tryd.prog 70 #[.int .i32 r] w fun e w' => ∃ v q, e = .returned (.int .i32 v) ∧ w' = w.drewN q := by
  have HF := Lib.hid hF; clear hF
  have HP := Lib.hid hp; clear hp
  go_enter Tryd.func70, Tryd.ntmps70
  go_wp2_with (go_at_call 44; refine (sf_any _ _ HF.out).mono ?_; rintro e w1 ⟨rfl, q1, rfl⟩)
  go_loopg [3, 4] (p + 1) (fun g s3 s4 wx => ∃ (k q : Nat) (m : Int), 1 ≤ k ∧ k ≤ p ∧ p - k < g ∧ s4 = .int .i32 (itF k r) ∧ s3 = .int .i32 m ∧ wx = w.drewN q)
  case atStart => exact ⟨1, q1, r, by omega, HP.out.pos, by omega, rfl, rfl, rfl⟩
  case round =>
    obtain ⟨k, q, m, hk1, hk2, hg, rfl, rfl, rfl⟩ := hrel
    obtain ⟨g', rfl⟩ : ∃ g', gk = g' + 1 := ⟨gk - 1, by omega⟩
    by_cases hlt : k < p
    · have hne : (itF k r != r) = true := by simpa using HP.out.first k hk1 hlt
      go_wp2_with (go_at_call 44; refine (sf_any _ _ (HF.out.drewN q)).mono ?_; rintro e w1 ⟨rfl, q2, rfl⟩)
      all_goals
        go_roundg g'
        case rel => exact ⟨k + 1, q + q2, _, by omega, by omega, by omega, rfl, rfl, rfl⟩
        case measure => omega
    · obtain rfl : k = p := by omega
      have hne : (itF k r != r) = false := by simpa using HP.out.back
      go_wp2
      go_ret
      exact ⟨m, q, rfl, rfl⟩
/-- What the look at some characters tells. -/
def ChP (zs : List Int) (w : World) (e : Ending) (w' : World) : Prop := ∃ r : Bool, e = .returned (.bool r) ∧ (r = true → ∀ c ∈ zs, chOk c) ∧ ∃ q, w' = w.drewN q
set_option maxRecDepth 100000 in
set_option maxHeartbeats 2000000 in
theorem reChars_any (zs : List Int) (A : Option Addr) (cap : Nat) (fold : Bool) (w : World) {B : Nat} (hF : FoldV B w) (hz : (Kd.int .i32).C w A zs.length zs) :
    Calls Tryd.prog 55 #[.slice A zs.length cap, .bool fold] w (ChP zs w) := by
  have HF := Lib.hid hF; clear hF
  have HZ := Lib.hid hz
  have hl : zs.length ≤ 9223372036854775807 := hz.2.1
  clear hz
  go_enter Tryd.func55, Tryd.ntmps55
  go_wp2_with fail
  go_loopg [9] (zs.length + 1) (fun g s9 wx => ∃ i q : Nat, s9 = .int .i64 i ∧ i ≤ zs.length ∧ (∀ c ∈ zs.take i, chOk c) ∧ wx = w.drewN q ∧ zs.length - i < g)
  case atStart => exact ⟨0, 0, rfl, by omega, by simp, rfl, by omega⟩
  case round =>
    obtain ⟨i, q, rfl, hi, hok, rfl, hg⟩ := hrel
    have HOK := Lib.hid hok
    clear hok
    obtain ⟨g', rfl⟩ : ∃ g', gk = g' + 1 := ⟨gk - 1, by omega⟩
    by_cases hlt : i < zs.length
    · obtain ⟨c, hc⟩ : ∃ c, zs[i]? = some c := ⟨_, List.getElem?_eq_getElem hlt⟩
      obtain ⟨ad, rfl, hcc⟩ := HZ.out.2.2 (by omega)
      have hq : w.cell? (ad.add i) = some (.int .i32 c) := by
        obtain ⟨cs, _, hK, hcell⟩ := hcc i c hc
        have h1 := hcell 0 (.int .i32 c) (by rw [show cs = [.int .i32 c] from hK]; rfl)
        rwa [show (Kd.int .i32).sz = 1 from rfl, Nat.mul_one, Nat.add_zero] at h1
      have hq' : (w.drewN q).cell? (ad.add i) = some (.int .i32 c) := hq
      obtain ⟨kv, hkv⟩ := (valid_ev (c := c)).rounds
      have hwi : IntKind.i64.wrap ((i : Int) + 1) = (i : Int) + 1 := by rw [IntKind.wrap_i64]; omega
      have HTK : Hid (chOk c → ∀ x ∈ zs.take (i + 1), chOk x) := Lib.hid fun h x hx => by
        rw [List.take_add_one, hc] at hx
        simp at hx
        rcases hx with hx | hx
        · exact HOK.out x hx
        · rw [hx]; exact h
      have hchv : Hid ((decide (0 ≤ c ∧ c < 55296) || decide (57343 < c ∧ c ≤ 1114111)) = true → chOk c) := Lib.hid fun h => by
        simp at h; unfold chOk; omega
      have CV : Hid (∀ w1, Calls Tryd.prog 69 #[.int .i32 c] w1 fun e w' => e = .returned (.bool (decide (0 ≤ c ∧ c < 55296) || decide (57343 < c ∧ c ≤ 1114111))) ∧ Drawn0 w1 w') := Lib.hid fun w1 => utf8_ValidRune.calls kv c _ w1 hkv
      clear hc hcc hq hkv
      generalize hv : (decide (0 ≤ c ∧ c < 55296) || decide (57343 < c ∧ c ≤ 1114111)) = v at *
      clear hv
      cases v with
      | false =>
        go_wp2_with (go_at_call 69; refine (CV.out _).mono ?_; rintro e w1 ⟨rfl, q1, rfl⟩)
        go_ret
        exact ⟨false, rfl, (fun h => by cases h), _, rfl⟩
      | true =>
        have hch := hchv.out rfl
        obtain ⟨p, hp⟩ := per_any c hch.1 hch.2.1
        have CL := Lib.hid (fun w1 (h : FoldV B w1) => reLeast_any c w1 h hp)
        have HCH := Lib.hid hch
        clear hch hp hchv
        cases fold with
        | false =>
          go_wp2_with (go_at_call 69; refine (CV.out _).mono ?_; rintro e w1 ⟨rfl, q1, rfl⟩)
          go_roundg g'
          case rel => exact ⟨i + 1, _, by go_num, by omega, HTK.out HCH.out, rfl, by omega⟩
          case measure => omega
        | true =>
          go_wp2_with (first
            | (go_at_call 69; refine (CV.out _).mono ?_; rintro e w1 ⟨rfl, q1, rfl⟩)
            | (go_at_call 70; refine (CL.out _ (HF.out.drewN _)).mono ?_; rintro e w1 ⟨v, q2, rfl, rfl⟩))
          · go_ret
            exact ⟨false, rfl, (fun h => by cases h), _, rfl⟩
          · go_roundg g'
            case rel => exact ⟨i + 1, _, by go_num, by omega, HTK.out HCH.out, rfl, by omega⟩
            case measure => omega
    · obtain rfl : i = zs.length := by omega
      go_wp2
      go_ret
      exact ⟨true, rfl, fun _ => by have := HOK.out; rwa [List.take_length] at this, q, rfl⟩
theorem ncL_at : ∀ {ts : List Tr} {i : Nat} {t : Tr}, ts[i]? = some t → ncT t ≤ ncL ts
  | [], i, t, hi => by simp at hi
  | t' :: ts, 0, t, hi => by simp at hi; subst hi; rw [ncL]; omega
  | t' :: ts, i + 1, t, hi => by have := ncL_at (ts := ts) (i := i) (by simpa using hi); rw [ncL]; omega
/-- What the look at a tree's literals tells. -/
def UsP (t : Tr) (w : World) (e : Ending) (w' : World) : Prop := ∃ r : Bool, e = .returned (.bool r) ∧ (r = true → usT t) ∧ Below w.heap.size w w'
theorem usL_of : ∀ (i : Nat) (ts : List Tr) (t : Tr), usL (ts.take i) → ts[i]? = some t → usT t → usL (ts.take (i + 1))
  | 0, [], t, _, h, _ => by simp at h
  | 0, u :: ts, t, _, h, hu => by simp at h; subst h; simp only [List.take_succ_cons, List.take_zero, usL]; exact ⟨hu, trivial⟩
  | i + 1, [], t, _, h, _ => by simp at h
  | i + 1, u :: ts, t, h0, h, hu => by
    rw [List.take_succ_cons, usL] at h0
    rw [List.take_succ_cons, usL]
    exact ⟨h0.1, usL_of i ts t h0.2 (by simpa using h) hu⟩
set_option maxRecDepth 100000 in
set_option maxHeartbeats 4000000 in
theorem reUsual_c : ∀ (N : Nat) (t : Tr) (A2 : Option Addr) (c2 : Nat) (A7 : Option Addr) (c7 : Nat) (w : World) (B : Nat), ncT t ≤ N → FoldV B w → B ≤ w.heap.size →
    (Kd.int .i32).C w A2 t.f2.length t.f2 → t.f2.length ≤ c2 → k40.C w A7 t.f7.length t.f7 → t.f7.length ≤ c7 →
    Calls Tryd.prog 36 #[.agg #[.int .i64 t.f0, .int .i64 t.f1, .slice A2 t.f2.length c2, .int .i64 t.f3, .int .i64 t.f4, .int .i64 t.f5, .string t.f6, .slice A7 t.f7.length c7]] w (UsP t w) := by
  intro N
  induction N with
  | zero => intro t A2 c2 A7 c7 w B hN; have := ncT_pos t; omega
  | succ N ih =>
    intro t A2 c2 A7 c7 w B hN hF hB h2 hc2 h7 hc7
    obtain ⟨op, fl, rs, m0, m1, cp, nm, ts⟩ := t
    rw [ncT] at hN
    simp only at h2 hc2 h7 hc7
    have IH := Lib.hid ih
    clear ih
    have hb1 : Below w.heap.size w (w.alloc (.cells #[.int .i64 op, .int .i64 fl, .slice A2 rs.length c2, .int .i64 m0, .int .i64 m1, .int .i64 cp, .string nm, .slice A7 ts.length c7] 40)) := (Below.refl _ _).alloc (Nat.le_refl _) _
    have hcells := blk_all w #[.int .i64 op, .int .i64 fl, .slice A2 rs.length c2, .int .i64 m0, .int .i64 m1, .int .i64 cp, .string nm, .slice A7 ts.length c7] 40 rfl
    have d0 := hcells 0 _ rfl
    have d1 := hcells 1 _ rfl
    have d2 := hcells 2 _ rfl
    have d3 := hcells 3 _ rfl
    have d4 := hcells 4 _ rfl
    have d5 := hcells 5 _ rfl
    have d6 := hcells 6 _ rfl
    have d7 := hcells 7 _ rfl
    have hl7 : ts.length ≤ 9223372036854775807 := h7.2.1
    have HF := Lib.hid hF
    have H2 := Lib.hid h2
    have H7 := Lib.hid h7
    clear hcells h2 h7 hF
    go_enter Tryd.func36, Tryd.ntmps36
    go_upto_region 1 with fail
    generalize w.alloc (.cells #[.int .i64 op, .int .i64 fl, .slice A2 rs.length c2, .int .i64 m0, .int .i64 m1, .int .i64 cp, .string nm, .slice A7 ts.length c7] 40) = W1 at *
    generalize hT0 : w.heap.size = T0 at *
    have HB1 := Lib.hid hb1
    clear hb1
    have hl0 : T0 < W1.heap.size := Gb.lt d0
    go_cut [17] (fun s17 wx => ∃ r : Bool, s17 = .bool r ∧ Below T0 w wx ∧ wx.cell? ⟨T0, 7, none⟩ = some (.slice A7 ts.length c7) ∧ (r = false → op = 3 → ∀ c ∈ rs, chOk c))
    case first =>
      by_cases h3 : op = 3
      · have hb3 : (op == 3) = true := by simpa using h3
        have CC := Lib.hid (reChars_any rs A2 c2 (bits BinOp.and IntKind.i64 fl 1 != 0) W1 (B := B) (HF.out.below (B' := T0) HB1.out hB) (Kd.C_below H2.out (by rw [hT0]; exact HB1.out)))
        clear h3
        go_wp2_with (go_at_call 55; refine CC.out.mono ?_; rintro e w1 ⟨r, rfl, hr, q, rfl⟩; have HR := Lib.hid hr; clear hr)
        go_meet
        exact ⟨!r, rfl, Gb.dn HB1.out q, d7, fun h _ => HR.out (by simpa using h)⟩
      · have hb3 : (op == 3) = false := by simpa using h3
        have H3 : Hid (op = 3 → ∀ c ∈ rs, chOk c) := Lib.hid fun h => absurd h h3
        clear h3
        go_wp2_with fail
        go_meet
        exact ⟨false, rfl, HB1.out, d7, fun _ => H3.out⟩
    case rest =>
      obtain ⟨r, rfl, hbw, z7, hch⟩ := hcut
      have HBW := Lib.hid hbw
      have HCH0 := Lib.hid hch
      clear hch hbw d0 d1 d2 d3 d4 d5 d6 d7
      cases r with
      | true =>
        go_wp2_with fail
        go_ret
        exact ⟨false, rfl, (fun h => by cases h), by rw [hT0]; exact HBW.out⟩
      | false =>
      have HCH := Lib.hid (HCH0.out rfl)
      clear HCH0
      go_wp2_with fail
      go_loopg [21] (ts.length + 1) (fun g s21 wx => ∃ i : Nat, s21 = .int .i64 i ∧ i ≤ ts.length ∧ Below T0 w wx ∧ usL (ts.take i) ∧ ts.length - i < g)
      case atStart => exact ⟨0, rfl, by omega, HBW.out, by rw [List.take_zero, usL]; trivial, by omega⟩
      case round =>
        obtain ⟨i, rfl, hi, hbx, hus, hg⟩ := hrel
        have HB := Lib.hid hbx
        have HUS := Lib.hid hus
        obtain ⟨g', rfl⟩ : ∃ g', gk = g' + 1 := ⟨gk - 1, by omega⟩
        clear hbx hus HBW z7
        by_cases hlt : i < ts.length
        · obtain ⟨x, ts', hd⟩ : ∃ t ts', ts.drop i = t :: ts' := by
            cases hdr : ts.drop i with
            | nil => have := List.drop_eq_nil_iff.1 hdr; omega
            | cons t ts' => exact ⟨t, ts', rfl⟩
          have hxi : ts[i]? = some x := by
            have := congrArg List.head? hd
            rw [List.head?_drop] at this
            simpa using this
          obtain ⟨bb, oo, D2, e2, D7, e7, rfl, y0, y1, y2, y3, y4, y5, y6, y7, l2, g2, l7, g7⟩ := elem_at H7.out hd
          have hbT := HB.out
          rw [← hT0] at hbT
          have q0 := Gb.cellB hbT y0
          have q1 := Gb.cellB hbT y1
          have q2 := Gb.cellB hbT y2
          have q3 := Gb.cellB hbT y3
          have q4 := Gb.cellB hbT y4
          have q5 := Gb.cellB hbT y5
          have q6 := Gb.cellB hbT y6
          have q7 := Gb.cellB hbT y7
          have hxn := ncL_at hxi
          have CI : Hid (∀ w1, Below wr.heap.size wr w1 → Calls Tryd.prog 36 #[.agg #[.int .i64 x.f0, .int .i64 x.f1, .slice D2 x.f2.length e2, .int .i64 x.f3, .int .i64 x.f4, .int .i64 x.f5, .string x.f6, .slice D7 x.f7.length e7]] w1 (UsP x w1)) := Lib.hid fun w1 hb1 =>
            IH.out x D2 e2 D7 e7 w1 B (by omega) ((HF.out.below hbT (by omega)).below hb1 (by have := hbT.size; omega)) (by have := hbT.size; have := hb1.size; omega) (Kd.C_below (Kd.C_below g2 hbT) hb1) l2 (Kd.C_below (Kd.C_below g7 hbT) hb1) l7
          have BA : Below wr.heap.size wr (wr.alloc (.cells #[.int .i64 x.f0, .int .i64 x.f1, .slice D2 x.f2.length e2, .int .i64 x.f3, .int .i64 x.f4, .int .i64 x.f5, .string x.f6, .slice D7 x.f7.length e7] 40)) := (Below.refl _ _).alloc (Nat.le_refl _) _
          have HBA := Lib.hid BA
          have HXI := Lib.hid hxi
          clear y0 y1 y2 y3 y4 y5 y6 y7 g2 g7 l2 l7 hd hxi hxn BA hbT
          go_wp2_with (go_at_call 36; refine (CI.out _ HBA.out).mono ?_; rintro e w2 ⟨r, rfl, hr, hb2⟩; have HR := Lib.hid hr; have HB2 := Lib.hid (HBA.out.trans (hb2.mono HBA.out.size)); clear hr hb2; cases r)
          · go_ret
            exact ⟨false, rfl, (fun h => by cases h), by rw [hT0]; exact HB.out.trans (HB2.out.mono (by have := HB.out.size; omega))⟩
          · go_roundg g'
            case rel => exact ⟨i + 1, by go_num, by omega, HB.out.trans (HB2.out.mono (by have := HB.out.size; omega)), usL_of i ts x HUS.out HXI.out (HR.out (by trivial)), by omega⟩
            case measure => omega
        · obtain rfl : i = ts.length := by omega
          have hus := HUS.out
          rw [List.take_length] at hus
          have HU2 := Lib.hid hus
          clear hus
          go_wp2
          go_ret
          exact ⟨true, rfl, (fun _ => by rw [usT]; exact ⟨HCH.out, HU2.out⟩), by rw [hT0]; exact HB.out⟩
end Go.Proofs.YtholpemmakdglaaDoor.PFnMtLeastLen
namespace Go.Proofs.YtholpemmakdglaaDoor.PFnMtLeastLen
open Go.RowKit Go.Proofs.YtholpemmakdglaaDoorW.PrintWords Go.Proofs.YtholpemmakdglaaDoorW.PrintLast Go.Proofs.YtholpemmakdglaaDoorW.PrintMore
open Fold (FoldV)
set_option linter.unusedVariables false
set_option linter.unusedSimpArgs false
/-- A sound tree of the size at most that the statements on matches speak of. -/
def soT (t : Tr) : Bool := sdT t 100 && decide (capsT t 1 > 0) && decide (sizeT t 400 ≤ 400)
theorem so_ev (t : Tr) (hw : wfT t) : Ev (fun k => spec_ReSound.f k t.f0 t.f1 t.f2 t.f3 t.f4 t.f5 t.f6 t.f7 400) (soT t) := by
  unfold spec_ReSound.f soT
  refine Ev.bind (f := fun k (r : Bool) => if r = true then (spec_reCaps.f k t.f0 t.f1 t.f2 t.f3 t.f4 t.f5 t.f6 t.f7 1).bind fun c => if c > 0 then (spec_ReSize.f k t.f0 t.f1 t.f2 t.f3 t.f4 t.f5 t.f6 t.f7 400).bind fun z => some (decide (z ≤ 400)) else some false else some false) (sd_ev t 100 hw) ?_
  by_cases h1 : sdT t 100 = true
  · simp only [if_pos h1, h1, Bool.true_and]
    refine Ev.bind (f := fun k c => if c > 0 then (spec_ReSize.f k t.f0 t.f1 t.f2 t.f3 t.f4 t.f5 t.f6 t.f7 400).bind fun z => some (decide (z ≤ 400)) else some false) (caps_ev t 1 hw) ?_
    by_cases h2 : capsT t 1 > 0
    · simp only [if_pos h2, h2, decide_true, Bool.true_and]
      exact Ev.bind (f := fun _ z => some (decide (z ≤ 400))) (sz_ev t 400 hw) (Ev.now _)
    · simp only [if_neg h2, h2, decide_false, Bool.false_and]
      exact Ev.now _
  · have h1' : sdT t 100 = false := by simpa using h1
    simp only [if_neg h1, h1', Bool.false_and]
    exact Ev.now _
theorem so_good {t : Tr} (hz : szT t) (h : soT t = true) : gdT t 1 ∧ ncT t ≤ 50000 := by
  unfold soT at h
  simp only [Bool.and_eq_true, decide_eq_true_eq] at h
  obtain ⟨⟨h1, h2⟩, h3⟩ := h
  have hs := (size_ok t 100 hz (by omega) h1).2.2 h3
  have hn : (ncT t : Int) ≤ 200 := by omega
  have hc := (caps_ok 1000 (by omega) t 1 (by omega) (by omega) (by omega)).1
  exact ⟨gd_ok t 100 1 hz (by omega) h1 (by omega) hc h3, by omega⟩
mutual
def brT : Tr → Bool
  | ⟨op, _, _, _, _, _, _, ts⟩ => if op = 1 then true else brL ts
def brL : List Tr → Bool
  | [] => false
  | t :: ts => if brT t = true then true else brL ts
end
mutual
theorem br_ev : ∀ t : Tr, wfT t → Ev (fun k => spec_ReBarren.f k t.f0 t.f1 t.f2 t.f3 t.f4 t.f5 t.f6 t.f7) (brT t)
  | ⟨op, fl, rs, m0, m1, cp, nm, ts⟩, hw => by
    rw [wfT] at hw
    rw [brT]
    by_cases h1 : op = 1
    · rw [if_pos h1]
      exact Ev.step (f := fun _ => some true) (fun k => by simp only [spec_ReBarren.f, if_pos h1]) (Ev.now _)
    · rw [if_neg h1]
      exact Ev.step (f := fun k => spec_ReBarren.l0 k ts ts.length 0) (fun k => by simp only [spec_ReBarren.f, if_neg h1]) (brL_ev ts ts 0 rfl hw.2.1 hw.2.2)
theorem brL_ev : ∀ (ts xs : List Tr) (i : Nat), xs.drop i = ts → Fits xs.length → wfL ts → Ev (fun k => spec_ReBarren.l0 k xs xs.length i) (brL ts)
  | [], xs, i, hd, hx, hw => by
    rw [brL]
    have hge : ¬ ((i : Int) < (xs.length : Int)) := by have := List.drop_eq_nil_iff.1 hd; omega
    exact Ev.step (f := fun _ => some false) (fun k => by simp only [spec_ReBarren.l0, if_neg hge]) (Ev.now _)
  | t :: ts, xs, i, hd, hx, hw => by
    rw [wfL] at hw
    rw [brL]
    obtain ⟨hlt, hrd, hd'⟩ := rd_at hd
    have h1 : (i : Int) < (xs.length : Int) := by omega
    have h0 : (0 : Int) ≤ (i : Int) := by omega
    refine Ev.step (f := fun k => (spec_ReBarren.f k t.f0 t.f1 t.f2 t.f3 t.f4 t.f5 t.f6 t.f7).bind fun r => if r = true then some true else spec_ReBarren.l0 k xs xs.length ((i + 1 : Nat) : Int)) (fun k => by simp only [spec_ReBarren.l0, if_pos h1, if_pos h0, hrd, wrap_i hlt hx]) ?_
    refine Ev.bind (f := fun k (r : Bool) => if r = true then some true else spec_ReBarren.l0 k xs xs.length ((i + 1 : Nat) : Int)) (br_ev t hw.1) ?_
    by_cases hs : brT t = true
    · simp only [if_pos hs]; exact Ev.now _
    · simp only [if_neg hs]; exact brL_ev ts xs (i + 1) hd' hx hw.2
end
/-- What the guard tells. -/
def OneP (t : Tr) (w : World) (e : Ending) (w' : World) : Prop := ∃ r : Bool, e = .returned (.bool r) ∧ (r = true → soT t = true ∧ usT t) ∧ Below w.heap.size w w'
set_option maxRecDepth 100000 in
set_option maxHeartbeats 4000000 in
theorem mtOne_c (t : Tr) (A2 : Option Addr) (c2 : Nat) (A7 : Option Addr) (c7 : Nat) (w : World) {B : Nat} (hF : FoldV B w) (hB : B ≤ w.heap.size) (hwf : wfT t) (h2 : (Kd.int .i32).C w A2 t.f2.length t.f2) (hc2 : t.f2.length ≤ c2) (h7 : k40.C w A7 t.f7.length t.f7) (hc7 : t.f7.length ≤ c7) :
    Calls Tryd.prog 18 #[.agg #[.int .i64 t.f0, .int .i64 t.f1, .slice A2 t.f2.length c2, .int .i64 t.f3, .int .i64 t.f4, .int .i64 t.f5, .string t.f6, .slice A7 t.f7.length c7]] w (OneP t w) := by
  obtain ⟨k1, hk1⟩ := (so_ev t hwf).rounds
  obtain ⟨k2, hk2⟩ := (br_ev t hwf).rounds
  have C1 : Hid (∀ w1, Below w.heap.size w w1 → Calls Tryd.prog 35 #[.agg #[.int .i64 t.f0, .int .i64 t.f1, .slice A2 t.f2.length c2, .int .i64 t.f3, .int .i64 t.f4, .int .i64 t.f5, .string t.f6, .slice A7 t.f7.length c7], .int .i64 400] w1 fun e w' => e = .returned (.bool (soT t)) ∧ Below w1.heap.size w1 w') := Lib.hid fun w1 hb =>
    spec_ReSound.calls k1 _ _ A2 c2 _ _ _ _ _ A7 c7 _ 400 _ w1 (Kd.C_below h2 hb) hc2 (Kd.C_below h7 hb) hc7 hk1
  have C2 : Hid (∀ w1, Below w.heap.size w w1 → Calls Tryd.prog 36 #[.agg #[.int .i64 t.f0, .int .i64 t.f1, .slice A2 t.f2.length c2, .int .i64 t.f3, .int .i64 t.f4, .int .i64 t.f5, .string t.f6, .slice A7 t.f7.length c7]] w1 (UsP t w1)) := Lib.hid fun w1 hb =>
    reUsual_c (ncT t) t A2 c2 A7 c7 w1 B (Nat.le_refl _) (hF.below hb hB) (Nat.le_trans hB hb.size) (Kd.C_below h2 hb) hc2 (Kd.C_below h7 hb) hc7
  have C3 : Hid (∀ w1, Below w.heap.size w w1 → Calls Tryd.prog 37 #[.agg #[.int .i64 t.f0, .int .i64 t.f1, .slice A2 t.f2.length c2, .int .i64 t.f3, .int .i64 t.f4, .int .i64 t.f5, .string t.f6, .slice A7 t.f7.length c7]] w1 fun e w' => e = .returned (.bool (brT t)) ∧ Below w1.heap.size w1 w') := Lib.hid fun w1 hb =>
    spec_ReBarren.calls k2 _ _ A2 c2 _ _ _ _ _ A7 c7 _ _ w1 (Kd.C_below h2 hb) hc2 (Kd.C_below h7 hb) hc7 hk2
  clear hk1 hk2 hF hwf h2 h7
  have hb1 : Below w.heap.size w (w.alloc (.cells #[.int .i64 t.f0, .int .i64 t.f1, .slice A2 t.f2.length c2, .int .i64 t.f3, .int .i64 t.f4, .int .i64 t.f5, .string t.f6, .slice A7 t.f7.length c7] 40)) := (Below.refl _ _).alloc (Nat.le_refl _) _
  have hcells := blk_all w #[.int .i64 t.f0, .int .i64 t.f1, .slice A2 t.f2.length c2, .int .i64 t.f3, .int .i64 t.f4, .int .i64 t.f5, .string t.f6, .slice A7 t.f7.length c7] 40 rfl
  have d0 := hcells 0 _ rfl
  have d1 := hcells 1 _ rfl
  have d2 := hcells 2 _ rfl
  have d3 := hcells 3 _ rfl
  have d4 := hcells 4 _ rfl
  have d5 := hcells 5 _ rfl
  have d6 := hcells 6 _ rfl
  have d7 := hcells 7 _ rfl
  have HB1 := Lib.hid hb1
  clear hb1 hcells
  cases hs : soT t with
  | false =>
    rw [hs] at C1
    clear hs
    go_enter Tryd.func18, Tryd.ntmps18
    go_wp2_with (go_at_call 35; refine (C1.out _ HB1.out).mono ?_; rintro e w2 ⟨rfl, hb2⟩)
    go_ret
    exact ⟨false, rfl, (fun h => by cases h), HB1.out.trans (hb2.mono HB1.out.size)⟩
  | true =>
    rw [hs] at C1
    have HSO := Lib.hid hs
    clear hs
    generalize brT t = br at *
    go_enter Tryd.func18, Tryd.ntmps18
    go_wp2_with (first
      | (go_at_call 35; refine (C1.out _ HB1.out).mono ?_; rintro e w2 ⟨rfl, hb2⟩; have HB2 := Lib.hid (HB1.out.trans (hb2.mono HB1.out.size)); have e0 := Gb.cellB hb2 d0; have e1 := Gb.cellB hb2 d1; have e2 := Gb.cellB hb2 d2; have e3 := Gb.cellB hb2 d3; have e4 := Gb.cellB hb2 d4; have e5 := Gb.cellB hb2 d5; have e6 := Gb.cellB hb2 d6; have e7 := Gb.cellB hb2 d7; clear d0 d1 d2 d3 d4 d5 d6 d7; clear hb2)
      | (go_at_call 36; refine (C2.out _ HB2.out).mono ?_; rintro e w3 ⟨r, rfl, hr, hb3⟩; have HR := Lib.hid hr; have HB3 := Lib.hid (HB2.out.trans (hb3.mono HB2.out.size)); have x0 := Gb.cellB hb3 e0; have x1 := Gb.cellB hb3 e1; have x2 := Gb.cellB hb3 e2; have x3 := Gb.cellB hb3 e3; have x4 := Gb.cellB hb3 e4; have x5 := Gb.cellB hb3 e5; have x6 := Gb.cellB hb3 e6; have x7 := Gb.cellB hb3 e7; clear e0 e1 e2 e3 e4 e5 e6 e7; clear hb3 hr; cases r)
      | (go_at_call 37; refine (C3.out _ HB3.out).mono ?_; rintro e w4 ⟨rfl, hb4⟩))
    · go_ret
      exact ⟨false, rfl, (fun h => by cases h), HB3.out⟩
    · go_ret
      exact ⟨_, rfl, fun _ => ⟨HSO.out, HR.out (by trivial)⟩, HB3.out.trans (hb4.mono HB3.out.size)⟩
set_option maxRecDepth 100000 in
set_option maxHeartbeats 4000000 in
theorem zzMin_c (t : Tr) (b : Nat) (w : World) (hr : RgT w (fun _ => True) b t) (hu : usT t) (hs : snT t) :
    Calls Tryd.prog 39 #[.pointer (some ⟨b, 0, none⟩)] w fun e w' => e = .returned (.int .i64 (llT t)) ∧ Below w.heap.size w w' := by
  have C := Lib.hid (minLen_c (ncT t) t b w (Nat.le_refl _) hr hu hs)
  clear hr hu hs
  go_enter Tryd.func39, Tryd.ntmps39
  go_wp2_with (go_at_call 58; refine C.out.mono ?_; rintro e w2 ⟨rfl, hb2⟩)
  go_ret
  exact ⟨rfl, hb2⟩
set_option maxRecDepth 100000 in
set_option maxHeartbeats 4000000 in
theorem trMin_c (t : Tr) (A2 : Option Addr) (c2 : Nat) (A7 : Option Addr) (c7 : Nat) (w : World) (hwf : wfT t) (hsz : szT t) (hgd : gdT t 1) (hnc : ncT t ≤ 50000) (hu : usT t) (h2 : (Kd.int .i32).C w A2 t.f2.length t.f2) (hc2 : t.f2.length ≤ c2) (h7 : k40.C w A7 t.f7.length t.f7) (hc7 : t.f7.length ≤ c7) :
    Calls Tryd.prog 19 #[.agg #[.int .i64 t.f0, .int .i64 t.f1, .slice A2 t.f2.length c2, .int .i64 t.f3, .int .i64 t.f4, .int .i64 t.f5, .string t.f6, .slice A7 t.f7.length c7]] w fun e w' => e = .returned (.tuple #[.int .i64 (llT t), .bool true]) ∧ Below w.heap.size w w' := by
  have CT : Hid (∀ w1, Below w.heap.size w w1 → Calls Tryd.prog 38 #[.agg #[.int .i64 t.f0, .int .i64 t.f1, .slice A2 t.f2.length c2, .int .i64 t.f3, .int .i64 t.f4, .int .i64 t.f5, .string t.f6, .slice A7 t.f7.length c7]] w1 fun e w' =>
      ∃ b, e = .returned (.tuple #[.pointer (some ⟨b, 0, none⟩), .bool true]) ∧ Below w1.heap.size w1 w' ∧ RgT w' (fun _ => True) b t) := Lib.hid fun w1 hb =>
    treeFor_c t A2 c2 A7 c7 w1 hwf hsz hgd hnc (Kd.C_below h2 hb) hc2 (Kd.C_below h7 hb) hc7
  have CZ : Hid (∀ (w1 : World) (b : Nat), RgT w1 (fun _ => True) b t → Calls Tryd.prog 39 #[.pointer (some ⟨b, 0, none⟩)] w1 fun e w' => e = .returned (.int .i64 (llT t)) ∧ Below w1.heap.size w1 w') := Lib.hid fun w1 b h => zzMin_c t b w1 h hu (sn_gd t 1 hgd)
  clear hwf hsz hgd hnc hu h2 h7
  generalize llT t = ll at *
  have hb1 : Below w.heap.size w (w.alloc (.cells #[.int .i64 t.f0, .int .i64 t.f1, .slice A2 t.f2.length c2, .int .i64 t.f3, .int .i64 t.f4, .int .i64 t.f5, .string t.f6, .slice A7 t.f7.length c7] 40)) := (Below.refl _ _).alloc (Nat.le_refl _) _
  have hcells := blk_all w #[.int .i64 t.f0, .int .i64 t.f1, .slice A2 t.f2.length c2, .int .i64 t.f3, .int .i64 t.f4, .int .i64 t.f5, .string t.f6, .slice A7 t.f7.length c7] 40 rfl
  have d0 := hcells 0 _ rfl
  have d1 := hcells 1 _ rfl
  have d2 := hcells 2 _ rfl
  have d3 := hcells 3 _ rfl
  have d4 := hcells 4 _ rfl
  have d5 := hcells 5 _ rfl
  have d6 := hcells 6 _ rfl
  have d7 := hcells 7 _ rfl
  have HB1 := Lib.hid hb1
  clear hb1 hcells
  go_enter Tryd.func19, Tryd.ntmps19
  go_wp2_with (first
    | (go_at_call 38; refine (CT.out _ HB1.out).mono ?_; rintro e w2 ⟨b, rfl, hb2, hr2⟩; have CZ2 := Lib.hid (CZ.out w2 b hr2); have HB2 := Lib.hid (HB1.out.trans (hb2.mono HB1.out.size)); clear hb2 hr2 CZ)
    | (go_at_call 39; refine CZ2.out.mono ?_; rintro e w3 ⟨rfl, hb3⟩))
  go_ret2
  exact ⟨rfl, HB2.out.trans (hb3.mono HB2.out.size)⟩
set_option maxRecDepth 100000 in
set_option maxHeartbeats 4000000 in
theorem law_c (t : Tr) (A2 : Option Addr) (c2 : Nat) (A7 : Option Addr) (c7 : Nat) (w : World) {B : Nat} (hF : FoldV B w) (hB : B ≤ w.heap.size) (hwf : wfT t) (hsz : szT t) (h2 : (Kd.int .i32).C w A2 t.f2.length t.f2) (hc2 : t.f2.length ≤ c2) (h7 : k40.C w A7 t.f7.length t.f7) (hc7 : t.f7.length ≤ c7) :
    Calls Tryd.prog 6 #[.agg #[.int .i64 t.f0, .int .i64 t.f1, .slice A2 t.f2.length c2, .int .i64 t.f3, .int .i64 t.f4, .int .i64 t.f5, .string t.f6, .slice A7 t.f7.length c7]] w fun e w' => e = .returned (.bool true) ∧ Below w.heap.size w w' := by
  obtain ⟨z, hz⟩ : ∃ z, laws_zzFits1.f t.f0 t.f1 t.f2 t.f3 t.f4 t.f5 t.f6 t.f7 = some z := by
    unfold laws_zzFits1.f
    by_cases a : (t.f2.length : Int) > 2147483647
    · exact ⟨false, by rw [if_pos a]⟩
    by_cases b : (t.f6.size : Int) > 2147483647
    · exact ⟨false, by rw [if_neg a, if_pos b]⟩
    by_cases c : (t.f7.length : Int) > 2147483647
    · exact ⟨false, by rw [if_neg a, if_neg b, if_pos c]⟩
    · exact ⟨true, by rw [if_neg a, if_neg b, if_neg c]⟩
  have C1 : Hid (∀ w1, Below w.heap.size w w1 → Calls Tryd.prog 17 #[.agg #[.int .i64 t.f0, .int .i64 t.f1, .slice A2 t.f2.length c2, .int .i64 t.f3, .int .i64 t.f4, .int .i64 t.f5, .string t.f6, .slice A7 t.f7.length c7]] w1 fun e w' => e = .returned (.bool z) ∧ Below w1.heap.size w1 w') := Lib.hid fun w1 hb =>
    laws_zzFits1.calls _ _ A2 c2 _ _ _ _ _ A7 c7 _ z w1 (Kd.C_below h2 hb) hc2 (Kd.C_below h7 hb) hc7 hz
  have C2 : Hid (∀ w1, Below w.heap.size w w1 → Calls Tryd.prog 18 #[.agg #[.int .i64 t.f0, .int .i64 t.f1, .slice A2 t.f2.length c2, .int .i64 t.f3, .int .i64 t.f4, .int .i64 t.f5, .string t.f6, .slice A7 t.f7.length c7]] w1 (OneP t w1)) := Lib.hid fun w1 hb =>
    mtOne_c t A2 c2 A7 c7 w1 (hF.below hb hB) (Nat.le_trans hB hb.size) hwf (Kd.C_below h2 hb) hc2 (Kd.C_below h7 hb) hc7
  have C3 : Hid (soT t = true ∧ usT t → ∀ w1, Below w.heap.size w w1 → Calls Tryd.prog 19 #[.agg #[.int .i64 t.f0, .int .i64 t.f1, .slice A2 t.f2.length c2, .int .i64 t.f3, .int .i64 t.f4, .int .i64 t.f5, .string t.f6, .slice A7 t.f7.length c7]] w1 fun e w' => e = .returned (.tuple #[.int .i64 (llT t), .bool true]) ∧ Below w1.heap.size w1 w') := Lib.hid fun h w1 hb =>
    trMin_c t A2 c2 A7 c7 w1 hwf hsz (so_good hsz h.1).1 (so_good hsz h.1).2 h.2 (Kd.C_below h2 hb) hc2 (Kd.C_below h7 hb) hc7
  have C4 : Hid (soT t = true ∧ usT t → ∀ w1, Below w.heap.size w w1 → Calls Tryd.prog 20 #[.agg #[.int .i64 t.f0, .int .i64 t.f1, .slice A2 t.f2.length c2, .int .i64 t.f3, .int .i64 t.f4, .int .i64 t.f5, .string t.f6, .slice A7 t.f7.length c7]] w1 fun e w' => e = .returned (.int .i64 (llT t)) ∧ Below w1.heap.size w1 w') := Lib.hid fun h w1 hb =>
    reLeastLen_c (ncT t) t A2 c2 A7 c7 w1 (Nat.le_refl _) (Kd.C_below h2 hb) hc2 (Kd.C_below h7 hb) hc7 h.2 (sn_gd t 1 (so_good hsz h.1).1)
  clear hwf hsz h2 h7 hz hF
  generalize llT t = ll at *
  have hb1 : Below w.heap.size w (w.alloc (.cells #[.int .i64 t.f0, .int .i64 t.f1, .slice A2 t.f2.length c2, .int .i64 t.f3, .int .i64 t.f4, .int .i64 t.f5, .string t.f6, .slice A7 t.f7.length c7] 40)) := (Below.refl _ _).alloc (Nat.le_refl _) _
  have hcells := blk_all w #[.int .i64 t.f0, .int .i64 t.f1, .slice A2 t.f2.length c2, .int .i64 t.f3, .int .i64 t.f4, .int .i64 t.f5, .string t.f6, .slice A7 t.f7.length c7] 40 rfl
  have d0 := hcells 0 _ rfl
  have d1 := hcells 1 _ rfl
  have d2 := hcells 2 _ rfl
  have d3 := hcells 3 _ rfl
  have d4 := hcells 4 _ rfl
  have d5 := hcells 5 _ rfl
  have d6 := hcells 6 _ rfl
  have d7 := hcells 7 _ rfl
  have HB1 := Lib.hid hb1
  clear hb1 hcells
  cases z with
  | false =>
    go_enter Tryd.func6, Tryd.ntmps6
    go_wp2_with (go_at_call 17; refine (C1.out _ HB1.out).mono ?_; rintro e w2 ⟨rfl, hb2⟩)
    go_ret
    exact ⟨rfl, HB1.out.trans (hb2.mono HB1.out.size)⟩
  | true =>
    go_enter Tryd.func6, Tryd.ntmps6
    go_wp2_with (first
      | (go_at_call 17; refine (C1.out _ HB1.out).mono ?_; rintro e w2 ⟨rfl, hb2⟩; have HB2 := Lib.hid (HB1.out.trans (hb2.mono HB1.out.size)); have e0 := Gb.cellB hb2 d0; have e1 := Gb.cellB hb2 d1; have e2 := Gb.cellB hb2 d2; have e3 := Gb.cellB hb2 d3; have e4 := Gb.cellB hb2 d4; have e5 := Gb.cellB hb2 d5; have e6 := Gb.cellB hb2 d6; have e7 := Gb.cellB hb2 d7; clear d0 d1 d2 d3 d4 d5 d6 d7; clear hb2)
      | (go_at_call 18; refine (C2.out _ HB2.out).mono ?_; rintro e w3 ⟨r, rfl, hr, hb3⟩; have HR := Lib.hid hr; have HB3 := Lib.hid (HB2.out.trans (hb3.mono HB2.out.size)); have x0 := Gb.cellB hb3 e0; have x1 := Gb.cellB hb3 e1; have x2 := Gb.cellB hb3 e2; have x3 := Gb.cellB hb3 e3; have x4 := Gb.cellB hb3 e4; have x5 := Gb.cellB hb3 e5; have x6 := Gb.cellB hb3 e6; have x7 := Gb.cellB hb3 e7; clear e0 e1 e2 e3 e4 e5 e6 e7; clear hb3 hr; cases r; rotate_left; have C5 := Lib.hid (C3.out (HR.out rfl)); have C6 := Lib.hid (C4.out (HR.out rfl)); clear C3 C4 HR; rotate_left)
      | (go_at_call 19; refine (C5.out _ HB3.out).mono ?_; rintro e w4 ⟨rfl, hb4⟩; have HB4 := Lib.hid (HB3.out.trans (hb4.mono HB3.out.size)); have y0 := Gb.cellB hb4 x0; have y1 := Gb.cellB hb4 x1; have y2 := Gb.cellB hb4 x2; have y3 := Gb.cellB hb4 x3; have y4 := Gb.cellB hb4 x4; have y5 := Gb.cellB hb4 x5; have y6 := Gb.cellB hb4 x6; have y7 := Gb.cellB hb4 x7; clear x0 x1 x2 x3 x4 x5 x6 x7; clear hb4)
      | (go_at_call 20; refine (C6.out _ HB4.out).mono ?_; rintro e w5 ⟨rfl, hb5⟩))
    all_goals go_ret
    all_goals first
      | exact ⟨rfl, HB4.out.trans (hb5.mono HB4.out.size)⟩
      | exact ⟨rfl, HB3.out⟩
end Go.Proofs.YtholpemmakdglaaDoor.PFnMtLeastLen
