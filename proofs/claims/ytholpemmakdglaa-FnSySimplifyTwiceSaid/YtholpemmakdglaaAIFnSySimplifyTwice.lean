/- The thin package makes a tree of the package out of data. What the law's reference says of a tree, and what the thin package's bounds and the package's look at its repeats make of it: in plain numbers. A tree that the law lets in is one that the thin package takes. The thin package's Simplify. The law on simplifying twice. -/
import Derived.Test.YtholpemmakdglaaADFnSySimplifyTwice
import Derived.Test.YtholpemmakdglaaAHFnSySimplifyTwice
import Derived.Test.YtholpemmakdglaaACFnSySimplifyTwice
namespace Go.Proofs.Ytholpemmakdglaa.PFnSySimplifyTwice
open Go.RowKit Go.Proofs.YtholpemmakdglaaW.PrintWords Go.Proofs.YtholpemmakdglaaW.PrintLast Go.Proofs.YtholpemmakdglaaW.PrintMore
set_option linter.unusedVariables false
set_option linter.unusedSimpArgs false
theorem snd_op {op : Int} {rs : List Int} {m0 m1 cp : Int} {sub : Nat} (h : sndF op rs m0 m1 cp sub = true) : 0 ≤ op ∧ op ≤ 255 := by
  unfold sndF at h
  by_cases c : 0 ≤ op ∧ op ≤ 255
  · exact c
  · exfalso
    rw [if_neg (by omega), if_neg (by omega), if_neg (by omega), if_neg (by omega), if_neg (by omega), if_neg (by omega), if_neg (by omega), if_neg (by omega)] at h
    exact Bool.false_ne_true h
mutual
theorem op_of_gd : ∀ (t : Tr) (h : Nat), gdT t h → opT t
  | ⟨op, fl, rs, m0, m1, cp, nm, ts⟩, h, hg => by
    rw [gdT] at hg
    rw [opT]
    have h1 := snd_op hg.2.1
    exact ⟨h1.1, h1.2, opL_of_gd ts (h + 1) hg.2.2.2.2⟩
theorem opL_of_gd : ∀ (ts : List Tr) (h : Nat), gdL ts h → opL ts
  | [], h, _ => by rw [opL]; trivial
  | t :: ts, h, hg => by
    rw [gdL] at hg
    rw [opL]
    exact ⟨op_of_gd t h hg.1, opL_of_gd ts h hg.2⟩
end
set_option maxRecDepth 100000 in
set_option maxHeartbeats 4000000 in
theorem treeFor_c (t : Tr) (A2 : Option Addr) (c2 : Nat) (A7 : Option Addr) (c7 : Nat) (w : World) (hwf : wfT t) (hsz : szT t) (hgd : gdT t 1) (hnc : ncT t ≤ 50000)
    (h2 : (Kd.int .i32).C w A2 t.f2.length t.f2) (hc2 : t.f2.length ≤ c2) (h7 : k35.C w A7 t.f7.length t.f7) (hc7 : t.f7.length ≤ c7) :
    Calls Try.prog 29 #[.agg #[.int .i64 t.f0, .int .i64 t.f1, .slice A2 t.f2.length c2, .int .i64 t.f3, .int .i64 t.f4, .int .i64 t.f5, .string t.f6, .slice A7 t.f7.length c7]] w fun e w' =>
      ∃ b, e = .returned (.tuple #[.pointer (some ⟨b, 0, none⟩), .bool true]) ∧ Below w.heap.size w w' ∧ RgT w' (fun _ => True) b t := by
  have CW : Hid (∀ w1, Below w.heap.size w w1 → w1.cell? ⟨w.heap.size + 1, 0, none⟩ = some (.int .i64 0) → w1.frozen? ⟨w.heap.size + 1, 0, none⟩ = false →
      Calls Try.prog 40 #[.agg #[.int .i64 t.f0, .int .i64 t.f1, .slice A2 t.f2.length c2, .int .i64 t.f3, .int .i64 t.f4, .int .i64 t.f5, .string t.f6, .slice A7 t.f7.length c7], .int .i64 1, .pointer (some ⟨w.heap.size + 1, 0, none⟩)] w1 fun e w' =>
      e = .returned (.tuple #[.int .i64 (wgT t), .bool true]) ∧ w1.grownBy w' (some (w.heap.size + 1))) := Lib.hid fun w1 hb hc hf =>
    (weigh_c (ncT t) t A2 c2 A7 c7 1 (w.heap.size + 1) 0 w w1 (Nat.le_refl _) hwf hgd (by omega) h2 hc2 h7 hc7 hb (by omega) hc hf).mono fun e w' h => ⟨h.1, h.2.1⟩
  have CR : Hid (∀ w1, Below w.heap.size w w1 → Calls Try.prog 41 #[.agg #[.int .i64 t.f0, .int .i64 t.f1, .slice A2 t.f2.length c2, .int .i64 t.f3, .int .i64 t.f4, .int .i64 t.f5, .string t.f6, .slice A7 t.f7.length c7]] w1 fun e w' =>
      ∃ b, e = .returned (.pointer (some ⟨b, 0, none⟩)) ∧ Below w1.heap.size w1 w' ∧ RgT w' (fun k => w1.heap.size ≤ k) b t) := Lib.hid fun w1 hb =>
    regexpOf_c (ncT t) t A2 c2 A7 c7 w1 (Nat.le_refl _) hwf hsz (op_of_gd t 1 hgd) (Kd.C_below h2 hb) hc2 (Kd.C_below h7 hb) hc7
  clear hwf hsz hgd hnc h2 h7
  go_enter Try.func29, Try.ntmps29
  go_upto_region 2 with fail
  have hb1 : Below w.heap.size w ((w.alloc (.cells #[.int .i64 t.f0, .int .i64 t.f1, .slice A2 t.f2.length c2, .int .i64 t.f3, .int .i64 t.f4, .int .i64 t.f5, .string t.f6, .slice A7 t.f7.length c7] 35)).alloc (.cells #[.int .i64 0] 3)) := ((Below.refl _ _).alloc (Nat.le_refl _) _).alloc (by simp) _
  have k0 := Mem.blk_old (Mem.blk_new w (.cells #[.int .i64 t.f0, .int .i64 t.f1, .slice A2 t.f2.length c2, .int .i64 t.f3, .int .i64 t.f4, .int .i64 t.f5, .string t.f6, .slice A7 t.f7.length c7] 35)) (.cells #[.int .i64 0] 3)
  have k1 := Mem.blk_new (w.alloc (.cells #[.int .i64 t.f0, .int .i64 t.f1, .slice A2 t.f2.length c2, .int .i64 t.f3, .int .i64 t.f4, .int .i64 t.f5, .string t.f6, .slice A7 t.f7.length c7] 35)) (.cells #[.int .i64 0] 3)
  have hs0 : (w.alloc (.cells #[.int .i64 t.f0, .int .i64 t.f1, .slice A2 t.f2.length c2, .int .i64 t.f3, .int .i64 t.f4, .int .i64 t.f5, .string t.f6, .slice A7 t.f7.length c7] 35)).heap.size = w.heap.size + 1 := by simp
  rw [hs0] at k1
  generalize (w.alloc (.cells #[.int .i64 t.f0, .int .i64 t.f1, .slice A2 t.f2.length c2, .int .i64 t.f3, .int .i64 t.f4, .int .i64 t.f5, .string t.f6, .slice A7 t.f7.length c7] 35)).alloc (.cells #[.int .i64 0] 3) = W1 at *
  clear hs0
  have d0 : W1.cell? ⟨w.heap.size, 0, none⟩ = some (.int .i64 t.f0) := (blk_cell k0 0).trans rfl
  have d1 : W1.cell? ⟨w.heap.size, 1, none⟩ = some (.int .i64 t.f1) := (blk_cell k0 1).trans rfl
  have d2 : W1.cell? ⟨w.heap.size, 2, none⟩ = some (.slice A2 t.f2.length c2) := (blk_cell k0 2).trans rfl
  have d3 : W1.cell? ⟨w.heap.size, 3, none⟩ = some (.int .i64 t.f3) := (blk_cell k0 3).trans rfl
  have d4 : W1.cell? ⟨w.heap.size, 4, none⟩ = some (.int .i64 t.f4) := (blk_cell k0 4).trans rfl
  have d5 : W1.cell? ⟨w.heap.size, 5, none⟩ = some (.int .i64 t.f5) := (blk_cell k0 5).trans rfl
  have d6 : W1.cell? ⟨w.heap.size, 6, none⟩ = some (.string t.f6) := (blk_cell k0 6).trans rfl
  have d7 : W1.cell? ⟨w.heap.size, 7, none⟩ = some (.slice A7 t.f7.length c7) := (blk_cell k0 7).trans rfl
  have d : W1.cell? ⟨w.heap.size + 1, 0, none⟩ = some (.int .i64 0) := (blk_cell k1 0).trans rfl
  have f := blk_frozen k1 0
  have HB1 := Lib.hid hb1
  have D := Lib.hid d
  have F := Lib.hid f
  have K0 := Lib.hid k0
  clear k0 k1 hb1 d f
  go_wp2_with (go_at_call 40; refine (CW.out _ HB1.out D.out F.out).mono ?_; rintro e w2 ⟨rfl, hg2⟩; have hb2 := Gb.toBelow HB1.out hg2 HB1.out.size (by omega); have HB2 := Lib.hid hb2; have k2 := Mem.blk_grown K0.out hg2 (by simp); have e0 := Gb.cell hg2 d0 (by simp); have e1 := Gb.cell hg2 d1 (by simp); have e2 := Gb.cell hg2 d2 (by simp); have e3 := Gb.cell hg2 d3 (by simp); have e4 := Gb.cell hg2 d4 (by simp); have e5 := Gb.cell hg2 d5 (by simp); have e6 := Gb.cell hg2 d6 (by simp); have e7 := Gb.cell hg2 d7 (by simp); clear hg2 hb2 k2 d0 d1 d2 d3 d4 d5 d6 d7)
  go_wp2_with (go_at_call 41; refine (CR.out _ HB2.out).mono ?_; rintro e w3 ⟨b, rfl, hb3, hr3⟩)
  go_ret2
  exact ⟨b, rfl, HB2.out.trans (hb3.mono HB2.out.size), rgT_move (fun k _ _ => ⟨rfl, trivial⟩) t b hr3⟩
end Go.Proofs.Ytholpemmakdglaa.PFnSySimplifyTwice
namespace Go.Proofs.Ytholpemmakdglaa.PFnSySimplifyTwice
open Go.RowKit Go.Proofs.YtholpemmakdglaaW.PrintWords Go.Proofs.YtholpemmakdglaaW.PrintLast Go.Proofs.YtholpemmakdglaaW.PrintMore
set_option linter.unusedVariables false
mutual
theorem ncT_pos' : ∀ t : Tr, 1 ≤ ncT t
  | ⟨_, _, _, _, _, _, _, ts⟩ => by rw [ncT]; omega
end
/-- A sum over the parts stays at least what it was, and is not negative. -/
theorem mn_le (a b : Int) : mn a b ≤ a ∧ mn a b ≤ b ∧ (mn a b = a ∨ mn a b = b) := by unfold mn; split <;> omega
theorem mx_ge (a b : Int) : a ≤ mx a b ∧ b ≤ mx a b ∧ (mx a b = a ∨ mx a b = b) := by unfold mx; split <;> omega
/-- Bounds of one node's size. -/
theorem sizeE_bd (op : Int) (len : Nat) (m0 m1 : Int) (sub : Nat) (acc : Int) (hl : Room len 4) (hs : Room sub 8) (ha : 0 ≤ acc) (ha1 : acc ≤ 2001) (h0 : op = 17 → 0 ≤ m0 ∧ m0 ≤ 1000 ∧ -1 ≤ m1 ∧ m1 ≤ 1000) (hlen : op = 3 → acc = 0) :
    0 ≤ sizeE op len m0 m1 sub acc 2000 ∧ sizeE op len m0 m1 sub acc 2000 ≤ 2001 ∧ (sizeE op len m0 m1 sub acc 2000 ≤ 2000 → acc + 2 ≤ sizeE op len m0 m1 sub acc 2000 ∧ (op = 17 → (acc + 1) * mx (mx (m0 + 1) m1) 1 ≤ sizeE op len m0 m1 sub acc 2000)) := by
  have hw : wrap64 (2000 + 1) = 2001 := by unfold wrap64; omega
  unfold Room at hl hs
  have hw1 : wrap64 (acc + 1) = acc + 1 := by unfold wrap64; omega
  have hw2 : wrap64 (acc + 2) = acc + 2 := by unfold wrap64; omega
  have hw3 : wrap64 (acc + (sub : Int)) = acc + sub := by unfold wrap64; omega
  have hw4 : wrap64 (acc + (sub : Int) + 2) = acc + sub + 2 := by unfold wrap64; omega
  unfold sizeE
  rw [hw]
  by_cases h17 : op = 17
  · rw [if_pos h17]
    obtain ⟨a1, a2, a3, a4⟩ := h0 h17
    have hw5 : wrap64 (m0 + 1) = m0 + 1 := by unfold wrap64; omega
    rw [hw1, hw5]
    obtain ⟨F, hF⟩ : ∃ F, F = mx (mx (m0 + 1) m1) 1 := ⟨_, rfl⟩
    rw [← hF]
    have hF1 : 1 ≤ F := by rw [hF]; exact (mx_ge _ _).2.1
    have hF2 : F ≤ 1001 := by
      rw [hF]; unfold mx
      repeat' split
      all_goals omega
    have hp0 : (acc + 1) * 1 ≤ (acc + 1) * F := Int.mul_le_mul_of_nonneg_left hF1 (by omega)
    have hp1 : (acc + 1) * F ≤ 2002 * 1001 := Int.mul_le_mul (by omega) hF2 (by omega) (by omega)
    generalize (acc + 1) * F = X at *
    have hw6 : wrap64 X = X := by unfold wrap64; omega
    rw [hw6]
    obtain ⟨b1, b2, b3⟩ := mn_le X 2001
    generalize mn X 2001 = Y at *
    have hw7 : wrap64 (Y + 2) = Y + 2 := by unfold wrap64; omega
    rw [hw7]
    obtain ⟨c1, c2, c3⟩ := mn_le (Y + 2) 2001
    generalize mn (Y + 2) 2001 = Z at *
    refine ⟨by omega, by omega, fun hZ => ⟨by omega, fun _ => by omega⟩⟩
  · rw [if_neg h17]
    by_cases h3 : op = 3
    · rw [if_pos h3]
      have l2 := hlen h3
      have hw8 : wrap64 ((len : Int) + 2) = len + 2 := by unfold wrap64; omega
      rw [hw8]
      obtain ⟨c1, c2, c3⟩ := mn_le ((len : Int) + 2) 2001
      exact ⟨by omega, by omega, fun hZ => ⟨by omega, fun h => absurd h h17⟩⟩
    · rw [if_neg h3]
      split
      · rw [hw3, hw4]
        obtain ⟨c1, c2, c3⟩ := mn_le (acc + (sub : Int) + 2) 2001
        exact ⟨by omega, by omega, fun hZ => ⟨by omega, fun h => absurd h h17⟩⟩
      · rw [hw2]
        obtain ⟨c1, c2, c3⟩ := mn_le (acc + 2) 2001
        exact ⟨by omega, by omega, fun hZ => ⟨by omega, fun h => absurd h h17⟩⟩
/-- The numbers of a tree's groups. -/
def cpP (B : Int) (op cp : Int) : Prop := op = 13 → 1 ≤ cp ∧ cp ≤ B
mutual
def cpT (B : Int) : Tr → Prop
  | ⟨op, _, _, _, _, cp, _, ts⟩ => cpP B op cp ∧ cpL B ts
def cpL (B : Int) : List Tr → Prop
  | [] => True
  | t :: ts => cpT B t ∧ cpL B ts
end
mutual
theorem caps_ok (B : Int) (hB : B ≤ 1000000) : ∀ (t : Tr) (n : Int), 1 ≤ n → n + ncT t ≤ B + 1 → 0 ≤ capsT t n → cpT B t ∧ n ≤ capsT t n ∧ capsT t n ≤ n + ncT t
  | ⟨op, fl, rs, m0, m1, cp, nm, ts⟩, n, h1, hn, hc => by
    rw [ncT] at hn
    rw [capsT] at hc ⊢
    rw [cpT, ncT]
    by_cases h13 : op = 13
    · rw [if_pos h13] at hc ⊢
      by_cases hcn : cp = n
      · rw [if_pos hcn] at hc ⊢
        have hw : wrap64 (n + 1) = n + 1 := by unfold wrap64; omega
        rw [hw] at hc ⊢
        obtain ⟨a, b, c⟩ := capsL_ok B hB ts (n + 1) (by omega) (by omega) hc
        exact ⟨⟨fun _ => by omega, a⟩, by omega, by omega⟩
      · rw [if_neg hcn] at hc; omega
    · rw [if_neg h13] at hc ⊢
      obtain ⟨a, b, c⟩ := capsL_ok B hB ts n h1 (by omega) hc
      exact ⟨⟨fun h => absurd h h13, a⟩, by omega, by omega⟩
theorem capsL_ok (B : Int) (hB : B ≤ 1000000) : ∀ (ts : List Tr) (n : Int), 1 ≤ n → n + ncL ts ≤ B + 1 → 0 ≤ capsL ts n → cpL B ts ∧ n ≤ capsL ts n ∧ capsL ts n ≤ n + ncL ts
  | [], n, h1, hn, hc => by
    rw [capsL] at hc ⊢
    rw [ncL] at hn ⊢
    rw [cpL]
    exact ⟨trivial, by omega, by omega⟩
  | t :: ts, n, h1, hn, hc => by
    rw [ncL] at hn ⊢
    rw [capsL] at hc ⊢
    rw [cpL]
    by_cases hneg : capsT t n < 0
    · rw [if_pos hneg] at hc; omega
    · rw [if_neg hneg] at hc ⊢
      obtain ⟨a, b, c⟩ := caps_ok B hB t n h1 (by omega) (by omega)
      obtain ⟨a', b', c'⟩ := capsL_ok B hB ts (capsT t n) (by omega) (by omega) hc
      exact ⟨⟨a, a'⟩, by omega, by omega⟩
end
/-- What the reference's look at a node says of it. -/
theorem nd_split {op : Int} {rs : List Int} {m0 m1 : Int} {sub : Nat} (h : ndF op rs m0 m1 sub = true) :
    (arF op).1 ≤ sub ∧ ((arF op).2 < 0 ∨ (sub : Int) ≤ (arF op).2) ∧ (op = 3 → chrF rs = true ∧ 0 < (rs.length : Int)) ∧ (op = 4 → clsF (-1) rs = true) ∧ (op = 17 → 0 ≤ m0 ∧ m0 ≤ 1000 ∧ -1 ≤ m1 ∧ m1 ≤ 1000 ∧ (m1 = -1 ∨ m0 ≤ m1)) := by
  unfold ndF at h
  by_cases hc : (sub : Int) < (arF op).1 ∨ ((arF op).2 ≥ 0 ∧ (sub : Int) > (arF op).2)
  · rw [if_pos hc] at h; cases h
  rw [if_neg hc] at h
  refine ⟨by omega, by omega, ?_⟩
  by_cases h3 : op = 3
  · rw [if_pos h3] at h
    simp only [Bool.and_eq_true, decide_eq_true_eq] at h
    exact ⟨fun _ => ⟨h.1, by omega⟩, fun h' => by omega, fun h' => by omega⟩
  rw [if_neg h3] at h
  by_cases h4 : op = 4
  · rw [if_pos h4] at h
    exact ⟨fun h' => by omega, fun _ => h, fun h' => by omega⟩
  rw [if_neg h4] at h
  by_cases h17 : op = 17
  · rw [if_pos h17] at h
    simp only [Bool.and_eq_true, Bool.or_eq_true, decide_eq_true_eq] at h
    exact ⟨fun h' => by omega, fun h' => by omega, fun _ => by omega⟩
  · exact ⟨fun h' => by omega, fun h' => by omega, fun h' => absurd h' h17⟩
theorem ar_11 {op : Int} (h : op = 13 ∨ op = 14 ∨ op = 15 ∨ op = 16 ∨ op = 17) : arF op = (1, 1) := by unfold arF; rw [if_pos h]
theorem ar_00 {op : Int} (h : 1 ≤ op ∧ op ≤ 12) : arF op = (0, 0) := by
  unfold arF
  rw [if_neg (show ¬ (op = 13 ∨ op = 14 ∨ op = 15 ∨ op = 16 ∨ op = 17) by omega), if_neg (show ¬ op = 18 by omega), if_neg (show ¬ op = 19 by omega), if_pos h]
theorem ar_19 : arF 19 = (1, -1) := by decide
theorem ar_10 {op : Int} (h : ¬ (1 ≤ op ∧ op ≤ 19)) : arF op = (1, 0) := by
  unfold arF
  rw [if_neg (show ¬ (op = 13 ∨ op = 14 ∨ op = 15 ∨ op = 16 ∨ op = 17) by omega), if_neg (show ¬ op = 18 by omega), if_neg (show ¬ op = 19 by omega), if_neg (show ¬ (1 ≤ op ∧ op ≤ 12) by omega)]
theorem nd_rep {op : Int} {rs : List Int} {m0 m1 : Int} {sub : Nat} (h : ndF op rs m0 m1 sub = true) : op = 17 → 0 ≤ m0 ∧ m0 ≤ 1000 ∧ -1 ≤ m1 ∧ m1 ≤ 1000 ∧ (m1 = -1 ∨ m0 ≤ m1) := (nd_split h).2.2.2.2
theorem nd_lit {op : Int} {rs : List Int} {m0 m1 : Int} {sub : Nat} (h : ndF op rs m0 m1 sub = true) : op = 3 → sub = 0 := by
  intro h3
  obtain ⟨h1, h2, _⟩ := nd_split h
  rw [ar_00 (by omega)] at h1 h2
  simp at h1 h2
  omega
theorem snd_of {op : Int} {rs : List Int} {m0 m1 cp : Int} {sub : Nat} (h : ndF op rs m0 m1 sub = true) (hcp : cpP 1000 op cp) : sndF op rs m0 m1 cp sub = true := by
  obtain ⟨a1, a2, n3, n4, n17⟩ := nd_split h
  clear h
  unfold sndF
  unfold cpP at hcp
  by_cases h1 : op = 1 ∨ op = 2 ∨ (5 ≤ op ∧ op ≤ 12)
  · rw [if_pos h1]
    rw [ar_00 (by omega)] at a1 a2
    simp at a1 a2 ⊢
    omega
  rw [if_neg h1]
  by_cases h3 : op = 3
  · rw [if_pos h3]
    rw [ar_00 (by omega)] at a1 a2
    obtain ⟨b1, b2⟩ := n3 h3
    simp only [Bool.and_eq_true, decide_eq_true_eq, beq_iff_eq]
    simp at a1 a2
    exact ⟨⟨by omega, b1⟩, by omega⟩
  rw [if_neg h3]
  by_cases h4 : op = 4
  · rw [if_pos h4]
    rw [ar_00 (by omega)] at a1 a2
    simp only [Bool.and_eq_true, beq_iff_eq]
    simp at a1 a2
    exact ⟨n4 h4, by omega⟩
  rw [if_neg h4]
  by_cases h13 : op = 13
  · rw [if_pos h13]
    rw [ar_11 (by omega)] at a1 a2
    obtain ⟨b1, b2⟩ := hcp h13
    simp only [Bool.and_eq_true, decide_eq_true_eq, beq_iff_eq]
    simp at a1 a2
    omega
  rw [if_neg h13]
  by_cases h14 : op = 14 ∨ op = 15 ∨ op = 16
  · rw [if_pos h14]
    rw [ar_11 (by omega)] at a1 a2
    simp only [beq_iff_eq]
    simp at a1 a2
    omega
  rw [if_neg h14]
  by_cases h17 : op = 17
  · rw [if_pos h17]
    rw [ar_11 (by omega)] at a1 a2
    obtain ⟨b1, b2, b3, b4, b5⟩ := n17 h17
    simp only [Bool.and_eq_true, Bool.or_eq_true, decide_eq_true_eq, beq_iff_eq]
    simp at a1 a2
    omega
  rw [if_neg h17]
  by_cases h18 : op = 18
  · rw [if_pos h18]
  rw [if_neg h18]
  by_cases h19 : op = 19
  · rw [if_pos h19]
    rw [h19, ar_19] at a1
    simp at a1 ⊢
    omega
  · exfalso
    rw [ar_10 (by omega)] at a1 a2
    simp at a1 a2
    omega
end Go.Proofs.Ytholpemmakdglaa.PFnSySimplifyTwice
namespace Go.Proofs.Ytholpemmakdglaa.PFnSySimplifyTwice
open Go.RowKit Go.Proofs.YtholpemmakdglaaW.PrintWords Go.Proofs.YtholpemmakdglaaW.PrintLast Go.Proofs.YtholpemmakdglaaW.PrintMore
set_option linter.unusedVariables false
theorem sd_split {op fl : Int} {rs : List Int} {m0 m1 cp : Int} {nm : ByteArray} {ts : List Tr} {d : Int} (h : sdT ⟨op, fl, rs, m0, m1, cp, nm, ts⟩ d = true) : 0 ≤ d ∧ ndF op rs m0 m1 ts.length = true ∧ sdL ts d = true := by
  rw [sdT] at h
  by_cases h1 : d < 0
  · rw [if_pos h1] at h; cases h
  rw [if_neg h1] at h
  by_cases h2 : ndF op rs m0 m1 ts.length = true
  · rw [if_pos h2] at h; exact ⟨by omega, h2, h⟩
  · rw [if_neg h2] at h; cases h
theorem sdL_split {t : Tr} {ts : List Tr} {d : Int} (h : sdL (t :: ts) d = true) : sdT t (wrap64 (d - 1)) = true ∧ sdL ts d = true := by
  rw [sdL] at h
  by_cases h1 : sdT t (wrap64 (d - 1)) = true
  · rw [if_pos h1] at h; exact ⟨h1, h⟩
  · rw [if_neg h1] at h; cases h
theorem step_bd {acc s : Int} (h0 : 0 ≤ acc) (h1 : acc ≤ 2001) (h2 : 0 ≤ s) (h3 : s ≤ 2001) : 0 ≤ mn (wrap64 (acc + s)) (wrap64 (2000 + 1)) ∧ mn (wrap64 (acc + s)) (wrap64 (2000 + 1)) ≤ 2001 ∧ acc ≤ mn (wrap64 (acc + s)) (wrap64 (2000 + 1)) ∧ (mn (wrap64 (acc + s)) (wrap64 (2000 + 1)) ≤ 2000 → mn (wrap64 (acc + s)) (wrap64 (2000 + 1)) = acc + s) := by
  have hw : wrap64 (2000 + 1) = 2001 := by unfold wrap64; omega
  have hw1 : wrap64 (acc + s) = acc + s := by unfold wrap64; omega
  rw [hw, hw1]
  obtain ⟨a, b, c⟩ := mn_le (acc + s) 2001
  exact ⟨by omega, by omega, by omega, fun _ => by omega⟩
mutual
theorem size_ok : ∀ (t : Tr) (d : Int), szT t → d ≤ 100 → sdT t d = true → 0 ≤ sizeT t 2000 ∧ sizeT t 2000 ≤ 2001 ∧ (sizeT t 2000 ≤ 2000 → wgT t ≤ sizeT t 2000 ∧ 2 * (ncT t : Int) ≤ sizeT t 2000)
  | ⟨op, fl, rs, m0, m1, cp, nm, ts⟩, d, hz, hd, hs => by
    obtain ⟨d0, hnd, hsl⟩ := sd_split hs
    rw [szT] at hz
    obtain ⟨a0, a1, _, a2⟩ := sizeL_ok ts d 0 hz.2.2 d0 hd hsl (by omega) (by omega)
    have h3 : op = 3 → sizeL ts 2000 0 = 0 := fun h3 => by
      have := nd_lit hnd h3
      have : ts = [] := List.length_eq_zero_iff.1 this
      subst this
      rw [sizeL]
    have hrep := nd_rep hnd
    rw [sizeT, wgT, ncT]
    obtain ⟨b0, b1, b2⟩ := sizeE_bd op rs.length m0 m1 ts.length (sizeL ts 2000 0) hz.1 hz.2.1 a0 a1 (fun h => by have := hrep h; omega) h3
    refine ⟨b0, b1, fun hle => ?_⟩
    obtain ⟨c1, c2⟩ := b2 hle
    obtain ⟨e1, e2⟩ := a2 (by omega)
    have e1' := e1 1
    have hw1 := wgL_ge ts 1
    refine ⟨?_, by omega⟩
    by_cases h17 : op = 17
    · have hX := c2 h17
      obtain ⟨r0, r1, r2, r3, _⟩ := hrep h17
      have hf : facT op m0 m1 ≤ mx (mx (m0 + 1) m1) 1 := by
        unfold facT
        rw [if_pos h17]
        obtain ⟨x1, x2, x3⟩ := mx_ge (mx (m0 + 1) m1) 1
        obtain ⟨y1, y2, y3⟩ := mx_ge (m0 + 1) m1
        obtain ⟨z1, z2, z3⟩ := mx_ge (mx m1 m0) 1
        obtain ⟨u1, u2, u3⟩ := mx_ge m1 m0
        omega
      have hf1 := facT_ge op m0 m1
      have : wgL ts 1 * facT op m0 m1 ≤ (sizeL ts 2000 0 + 1) * mx (mx (m0 + 1) m1) 1 := Int.mul_le_mul (by omega) hf (by omega) (by omega)
      omega
    · have : facT op m0 m1 = 1 := by unfold facT; rw [if_neg h17]
      rw [this]
      omega
theorem sizeL_ok : ∀ (ts : List Tr) (d acc : Int), szL ts → 0 ≤ d → d ≤ 100 → sdL ts d = true → 0 ≤ acc → acc ≤ 2001 → 0 ≤ sizeL ts 2000 acc ∧ sizeL ts 2000 acc ≤ 2001 ∧ acc ≤ sizeL ts 2000 acc ∧
    (sizeL ts 2000 acc ≤ 2000 → (∀ a, wgL ts a ≤ a + (sizeL ts 2000 acc - acc)) ∧ 2 * (ncL ts : Int) ≤ sizeL ts 2000 acc - acc)
  | [], d, acc, hz, h0, hd, hs, ha, ha1 => by
    rw [sizeL, ncL]
    exact ⟨by omega, by omega, by omega, fun _ => ⟨fun a => by rw [wgL]; omega, by simp⟩⟩
  | t :: ts, d, acc, hz, h0, hd, hs, ha, ha1 => by
    obtain ⟨hs1, hs2⟩ := sdL_split hs
    rw [szL] at hz
    have hw : wrap64 (d - 1) = d - 1 := by unfold wrap64; omega
    rw [hw] at hs1
    obtain ⟨b0, b1, b2⟩ := size_ok t (d - 1) hz.1 (by omega) hs1
    rw [sizeL, ncL]
    obtain ⟨s0, s1, s2, s3⟩ := step_bd ha ha1 b0 b1
    obtain ⟨c0, c1, c2, c3⟩ := sizeL_ok ts d _ hz.2 h0 hd hs2 s0 s1
    refine ⟨c0, c1, by omega, fun hle => ?_⟩
    obtain ⟨e1, e2⟩ := c3 hle
    have hm := s3 (by omega)
    obtain ⟨f1, f2⟩ := b2 (by omega)
    refine ⟨fun a => ?_, by omega⟩
    rw [wgL]
    have := e1 (a + wgT t)
    omega
end
mutual
theorem gd_ok : ∀ (t : Tr) (d : Int) (h : Nat), szT t → d ≤ 100 → sdT t d = true → (h : Int) + d ≤ 101 → cpT 1000 t → sizeT t 2000 ≤ 2000 → gdT t h
  | ⟨op, fl, rs, m0, m1, cp, nm, ts⟩, d, h, hz, hd, hs, hh, hc, hle => by
    have hsz := (size_ok ⟨op, fl, rs, m0, m1, cp, nm, ts⟩ d hz hd hs).2.2 hle
    obtain ⟨d0, hnd, hsl⟩ := sd_split hs
    rw [szT] at hz
    rw [cpT] at hc
    obtain ⟨a0, a1, _, a2⟩ := sizeL_ok ts d 0 hz.2.2 d0 hd hsl (by omega) (by omega)
    have h3 : op = 3 → sizeL ts 2000 0 = 0 := fun h3 => by
      have := nd_lit hnd h3
      have : ts = [] := List.length_eq_zero_iff.1 this
      subst this
      rw [sizeL]
    have hrep := nd_rep hnd
    have hle' := hle
    rw [sizeT] at hle'
    obtain ⟨b0, b1, b2⟩ := sizeE_bd op rs.length m0 m1 ts.length (sizeL ts 2000 0) hz.1 hz.2.1 a0 a1 (fun h => by have := hrep h; omega) h3
    have c1 := (b2 hle').1
    have hw := hsz.1
    rw [wgT] at hw
    rw [gdT]
    exact ⟨by omega, snd_of hnd hc.1, fun h => by have := hrep h; omega, by omega, gdL_ok ts d (h + 1) 0 hz.2.2 d0 hd hsl (by omega) hc.2 (by omega) (by omega) (by omega)⟩
theorem gdL_ok : ∀ (ts : List Tr) (d : Int) (h : Nat) (acc : Int), szL ts → 0 ≤ d → d ≤ 100 → sdL ts d = true → (h : Int) + d ≤ 102 → cpL 1000 ts → 0 ≤ acc → acc ≤ 2001 → sizeL ts 2000 acc ≤ 2000 → gdL ts h
  | [], d, h, acc, _, _, _, _, _, _, _, _, _ => by rw [gdL]; trivial
  | t :: ts, d, h, acc, hz, h0, hd, hs, hh, hc, ha, ha1, hle => by
    obtain ⟨hs1, hs2⟩ := sdL_split hs
    rw [szL] at hz
    rw [cpL] at hc
    have hw : wrap64 (d - 1) = d - 1 := by unfold wrap64; omega
    rw [hw] at hs1
    obtain ⟨b0, b1, b2⟩ := size_ok t (d - 1) hz.1 (by omega) hs1
    rw [sizeL] at hle
    obtain ⟨s0, s1, s2, s3⟩ := step_bd ha ha1 b0 b1
    obtain ⟨c0, c1, c2, c3⟩ := sizeL_ok ts d _ hz.2 h0 hd hs2 s0 s1
    have hm := s3 (by omega)
    rw [gdL]
    exact ⟨gd_ok t (d - 1) h hz.1 (by omega) hs1 (by omega) hc.1 (by omega), gdL_ok ts d h _ hz.2 h0 hd hs2 hh hc.2 s0 s1 hle⟩
end
/-- A tree that the law lets in. -/
theorem sy_good2 {t : Tr} (hz : szT t) (h : syT t = true) : gdT t 1 ∧ ncT t ≤ 50000 ∧ wgT t ≤ 2000 := by
  unfold syT at h
  simp only [Bool.and_eq_true, decide_eq_true_eq] at h
  obtain ⟨⟨h1, h2⟩, h3⟩ := h
  have hs := (size_ok t 100 hz (by omega) h1).2.2 h3
  have hn : (ncT t : Int) ≤ 1000 := by omega
  have hc := (caps_ok 1000 (by omega) t 1 (by omega) (by omega) (by omega)).1
  exact ⟨gd_ok t 100 1 hz (by omega) h1 (by omega) hc h3, by omega, by omega⟩
theorem sy_good {t : Tr} (hz : szT t) (h : syT t = true) : gdT t 1 ∧ ncT t ≤ 50000 := ⟨(sy_good2 hz h).1, (sy_good2 hz h).2.1⟩
end Go.Proofs.Ytholpemmakdglaa.PFnSySimplifyTwice
namespace Go.Proofs.Ytholpemmakdglaa.PFnSySimplifyTwice
open Go.RowKit Go.Proofs.YtholpemmakdglaaW.PrintWords Go.Proofs.YtholpemmakdglaaW.PrintLast Go.Proofs.YtholpemmakdglaaW.PrintMore
set_option linter.unusedVariables false
set_option linter.unusedSimpArgs false
mutual
theorem sn_fl : ∀ t : Tr, snT t → snT (flT t)
  | ⟨op, fl, rs, m0, m1, cp, nm, ts⟩, h => by
    rw [snT] at h
    rw [flT, snT, flL_len]
    exact ⟨h.1, snL_fl ts h.2⟩
theorem snL_fl : ∀ ts : List Tr, snL ts → snL (flL ts)
  | [], _ => by rw [flL, snL]; trivial
  | t :: ts, h => by rw [snL] at h; rw [flL, snL]; exact ⟨sn_fl t h.1, snL_fl ts h.2⟩
end
mutual
theorem nc_fl : ∀ t : Tr, ncT (flT t) = ncT t
  | ⟨op, fl, rs, m0, m1, cp, nm, ts⟩ => by rw [flT, ncT, ncT, ncL_fl ts]
theorem ncL_fl : ∀ ts : List Tr, ncL (flL ts) = ncL ts
  | [] => by rw [flL]
  | t :: ts => by rw [flL, ncL, ncL, nc_fl t, ncL_fl ts]
end
mutual
theorem wg_fl : ∀ t : Tr, wgT (flT t) = wgT t
  | ⟨op, fl, rs, m0, m1, cp, nm, ts⟩ => by rw [flT, wgT, wgT, wgL_fl ts]
theorem wgL_fl : ∀ (ts : List Tr) (a : Int), wgL (flL ts) a = wgL ts a
  | [], a => by rw [flL]
  | t :: ts, a => by rw [flL, wgL, wgL, wg_fl t, wgL_fl ts]
end
mutual
/-- Flags that the package keeps stay what they are. -/
theorem fl_fn : ∀ t : Tr, fnT t → flT t = t
  | ⟨op, fl, rs, m0, m1, cp, nm, ts⟩, h => by
    rw [fnT] at h
    rw [flT, flL_fn ts h.2.2.2, show IntKind.u16.wrap fl = fl by rw [IntKind.wrap_u16]; omega]
theorem flL_fn : ∀ ts : List Tr, fnL ts → flL ts = ts
  | [], _ => by rw [flL]
  | t :: ts, h => by rw [fnL] at h; rw [flL, fl_fn t h.1, flL_fn ts h.2]
end
mutual
theorem sz_fn : ∀ t : Tr, fnT t → szT t
  | ⟨op, fl, rs, m0, m1, cp, nm, ts⟩, h => by
    rw [fnT] at h
    rw [szT]
    exact ⟨h.2.1, h.2.2.1, szL_fn ts h.2.2.2⟩
theorem szL_fn : ∀ ts : List Tr, fnL ts → szL ts
  | [], _ => by rw [szL]; trivial
  | t :: ts, h => by rw [fnL] at h; rw [szL]; exact ⟨sz_fn t h.1, szL_fn ts h.2⟩
end
/-- What comes out of Simplify, as data. -/
def SyP (w : World) (t : Tr) (e : Ending) (w' : World) : Prop :=
  ∃ B2 b2 B7 b7 t1, e = .returned (.tuple #[.agg #[.int .i64 t1.f0, .int .i64 t1.f1, .slice B2 t1.f2.length b2, .int .i64 t1.f3, .int .i64 t1.f4, .int .i64 t1.f5, .string t1.f6, .slice B7 t1.f7.length b7], .bool true]) ∧ Below w.heap.size w w' ∧
    (Kd.int .i32).C w' B2 t1.f2.length t1.f2 ∧ t1.f2.length ≤ b2 ∧ k35.C w' B7 t1.f7.length t1.f7 ∧ t1.f7.length ≤ b7 ∧ wfT t1 ∧ fnT t1 ∧ nmT t1 = simT (flT t)
set_option maxRecDepth 100000 in
set_option maxHeartbeats 4000000 in
theorem sySimplify_c (t : Tr) (A2 : Option Addr) (c2 : Nat) (A7 : Option Addr) (c7 : Nat) (w : World) (hwf : wfT t) (hsz : szT t) (hgd : gdT t 1) (hnc : ncT t ≤ 50000) (hwg : wgT t ≤ 5000)
    (h2 : (Kd.int .i32).C w A2 t.f2.length t.f2) (hc2 : t.f2.length ≤ c2) (h7 : k35.C w A7 t.f7.length t.f7) (hc7 : t.f7.length ≤ c7) :
    Calls Try.prog 20 #[.agg #[.int .i64 t.f0, .int .i64 t.f1, .slice A2 t.f2.length c2, .int .i64 t.f3, .int .i64 t.f4, .int .i64 t.f5, .string t.f6, .slice A7 t.f7.length c7]] w (SyP w t) := by
  have CT : Hid (∀ w1, Below w.heap.size w w1 → Calls Try.prog 29 #[.agg #[.int .i64 t.f0, .int .i64 t.f1, .slice A2 t.f2.length c2, .int .i64 t.f3, .int .i64 t.f4, .int .i64 t.f5, .string t.f6, .slice A7 t.f7.length c7]] w1 fun e w' =>
      ∃ b, e = .returned (.tuple #[.pointer (some ⟨b, 0, none⟩), .bool true]) ∧ Below w1.heap.size w1 w' ∧ RgT w' (fun _ => True) b t) := Lib.hid fun w1 hb =>
    treeFor_c t A2 c2 A7 c7 w1 hwf hsz hgd hnc (Kd.C_below h2 hb) hc2 (Kd.C_below h7 hb) hc7
  have hs := sn_fl t (sn_gd t 1 hgd)
  have hf := fn_fl t hsz (op_of_gd t 1 hgd)
  have CI : Hid (∀ (w1 : World) (b : Nat), RgT w1 (fun _ => True) b t → Calls Try.prog 32 #[.pointer (some ⟨b, 0, none⟩)] w1 (SimP w1 (fun _ => True) (simT (flT t)))) := Lib.hid fun w1 b h =>
    simplify_c 50000 (Nat.le_refl _) (flT t) b _ w1 (by rw [nc_fl]; exact hnc) (rsT_of_rg t b h) hf hs
  have hn := nc_sim (flT t) hs
  rw [wg_fl] at hn
  have CO : Hid (∀ (w1 : World) (b : Nat) (t1 : Tr) (ok : Nat → Prop), RsT w1 ok b t1 → fnT t1 → nmT t1 = simT (flT t) → Calls Try.prog 31 #[.pointer (some ⟨b, 0, none⟩)] w1 fun e w' => ∃ cs, e = .returned (.agg cs.toArray) ∧ Below w1.heap.size w1 w' ∧ k35.M w' w1.heap.size (fun k => w1.heap.size ≤ k) t1 cs) := Lib.hid fun w1 b t1 ok h1 h2 h3 =>
    treeOf_c 50000 (Nat.le_refl _) t1 b ok w1 (by rw [← nc_nm, h3]; omega) h1 h2
  clear hwf hsz hgd hnc hwg h2 h7 hs hf hn
  go_enter Try.func20, Try.ntmps20
  go_upto_region 1 with fail
  have hb1 : Below w.heap.size w ((w.alloc (.cells #[.int .i64 t.f0, .int .i64 t.f1, .slice A2 t.f2.length c2, .int .i64 t.f3, .int .i64 t.f4, .int .i64 t.f5, .string t.f6, .slice A7 t.f7.length c7] 35)).alloc (.cells #[.int .i64 0, .int .i64 0, .slice none 0 0, .int .i64 0, .int .i64 0, .int .i64 0, .string ⟨#[]⟩, .slice none 0 0] 35)) := ((Below.refl _ _).alloc (Nat.le_refl _) _).alloc (by simp) _
  have k0 := Mem.blk_old (Mem.blk_new w (.cells #[.int .i64 t.f0, .int .i64 t.f1, .slice A2 t.f2.length c2, .int .i64 t.f3, .int .i64 t.f4, .int .i64 t.f5, .string t.f6, .slice A7 t.f7.length c7] 35)) (.cells #[.int .i64 0, .int .i64 0, .slice none 0 0, .int .i64 0, .int .i64 0, .int .i64 0, .string ⟨#[]⟩, .slice none 0 0] 35)
  have k1 := Mem.blk_new (w.alloc (.cells #[.int .i64 t.f0, .int .i64 t.f1, .slice A2 t.f2.length c2, .int .i64 t.f3, .int .i64 t.f4, .int .i64 t.f5, .string t.f6, .slice A7 t.f7.length c7] 35)) (.cells #[.int .i64 0, .int .i64 0, .slice none 0 0, .int .i64 0, .int .i64 0, .int .i64 0, .string ⟨#[]⟩, .slice none 0 0] 35)
  have hs0 : (w.alloc (.cells #[.int .i64 t.f0, .int .i64 t.f1, .slice A2 t.f2.length c2, .int .i64 t.f3, .int .i64 t.f4, .int .i64 t.f5, .string t.f6, .slice A7 t.f7.length c7] 35)).heap.size = w.heap.size + 1 := by simp
  rw [hs0] at k1
  generalize (w.alloc (.cells #[.int .i64 t.f0, .int .i64 t.f1, .slice A2 t.f2.length c2, .int .i64 t.f3, .int .i64 t.f4, .int .i64 t.f5, .string t.f6, .slice A7 t.f7.length c7] 35)).alloc (.cells #[.int .i64 0, .int .i64 0, .slice none 0 0, .int .i64 0, .int .i64 0, .int .i64 0, .string ⟨#[]⟩, .slice none 0 0] 35) = W1 at *
  clear hs0
  have d0 : W1.cell? ⟨w.heap.size, 0, none⟩ = some (.int .i64 t.f0) := (blk_cell k0 0).trans rfl
  have d1 : W1.cell? ⟨w.heap.size, 1, none⟩ = some (.int .i64 t.f1) := (blk_cell k0 1).trans rfl
  have d2 : W1.cell? ⟨w.heap.size, 2, none⟩ = some (.slice A2 t.f2.length c2) := (blk_cell k0 2).trans rfl
  have d3 : W1.cell? ⟨w.heap.size, 3, none⟩ = some (.int .i64 t.f3) := (blk_cell k0 3).trans rfl
  have d4 : W1.cell? ⟨w.heap.size, 4, none⟩ = some (.int .i64 t.f4) := (blk_cell k0 4).trans rfl
  have d5 : W1.cell? ⟨w.heap.size, 5, none⟩ = some (.int .i64 t.f5) := (blk_cell k0 5).trans rfl
  have d6 : W1.cell? ⟨w.heap.size, 6, none⟩ = some (.string t.f6) := (blk_cell k0 6).trans rfl
  have d7 : W1.cell? ⟨w.heap.size, 7, none⟩ = some (.slice A7 t.f7.length c7) := (blk_cell k0 7).trans rfl
  have HB1 := Lib.hid hb1
  have HK1 := Lib.hid k1
  have hl1 : w.heap.size + 1 < W1.heap.size := lt_of_block k1
  clear hb1 k0 k1
  go_upto_region 4 with (go_at_call 29; refine (CT.out _ HB1.out).mono ?_; rintro e w2 ⟨b, rfl, hb2, hr2⟩)
  have CS := Lib.hid (CI.out w2 b hr2)
  have HB2 := Lib.hid hb2
  clear hb2 hr2 CT CI d0 d1 d2 d3 d4 d5 d6 d7
  go_wp2_with (first
    | (go_at_call 32; refine CS.out.mono ?_; rintro e w3 ⟨b3, t1, rfl, hb3, hr3, hf3, hn3⟩; have HF3 := Lib.hid hf3; have HN3 := Lib.hid hn3; have HB3 := Lib.hid hb3; have CP := Lib.hid (CO.out w3 b3 t1 _ hr3 hf3 hn3); clear hb3 hr3 hf3 hn3 CO)
    | (go_at_call 31; refine CP.out.mono ?_; rintro e w4 ⟨cs, rfl, hb4, hM4⟩; have HM4 := Lib.hid hM4; obtain ⟨v2, v7, rfl, g2, g7⟩ := k35_openM hM4; obtain ⟨B2, b2, rfl⟩ := Kd.R_slice g2; obtain ⟨B7, b7, rfl⟩ := Kd.R_slice g7; have HB4 := Lib.hid hb4; have hk4 := (hb4.block (w.heap.size + 1) (by have := HB2.out.size; have := HB3.out.size; omega)).trans ((HB3.out.block (w.heap.size + 1) (by have := HB2.out.size; omega)).trans ((HB2.out.block (w.heap.size + 1) hl1).trans HK1.out)); have HK4 := Lib.hid hk4; have z0 : w4.cell? ⟨w.heap.size + 1, 0, none⟩ = some (.int .i64 0) := (blk_cell hk4 0).trans rfl; have f0 := blk_frozen hk4 0; have z1 : w4.cell? ⟨w.heap.size + 1, 1, none⟩ = some (.int .i64 0) := (blk_cell hk4 1).trans rfl; have f1 := blk_frozen hk4 1; have z2 : w4.cell? ⟨w.heap.size + 1, 2, none⟩ = some (.slice none 0 0) := (blk_cell hk4 2).trans rfl; have f2 := blk_frozen hk4 2; have z3 : w4.cell? ⟨w.heap.size + 1, 3, none⟩ = some (.int .i64 0) := (blk_cell hk4 3).trans rfl; have f3 := blk_frozen hk4 3; have z4 : w4.cell? ⟨w.heap.size + 1, 4, none⟩ = some (.int .i64 0) := (blk_cell hk4 4).trans rfl; have f4 := blk_frozen hk4 4; have z5 : w4.cell? ⟨w.heap.size + 1, 5, none⟩ = some (.int .i64 0) := (blk_cell hk4 5).trans rfl; have f5 := blk_frozen hk4 5; have z6 : w4.cell? ⟨w.heap.size + 1, 6, none⟩ = some (.string ⟨#[]⟩) := (blk_cell hk4 6).trans rfl; have f6 := blk_frozen hk4 6; have z7 : w4.cell? ⟨w.heap.size + 1, 7, none⟩ = some (.slice none 0 0) := (blk_cell hk4 7).trans rfl; have f7 := blk_frozen hk4 7; clear g2 g7 hb4 hM4 hk4))
  have HA0 := w8_blk HK4.out (.int .i64 t1.f0) (.int .i64 t1.f1) (.slice B2 t1.f2.length b2) (.int .i64 t1.f3) (.int .i64 t1.f4) (.int .i64 t1.f5) (.string t1.f6) (.slice B7 t1.f7.length b7)
  have HBA : Below w.heap.size w (w8 w4 (w.heap.size + 1) (.int .i64 t1.f0) (.int .i64 t1.f1) (.slice B2 t1.f2.length b2) (.int .i64 t1.f3) (.int .i64 t1.f4) (.int .i64 t1.f5) (.string t1.f6) (.slice B7 t1.f7.length b7)) := w8_below ((HB1.out.trans (HB2.out.mono HB1.out.size)).trans ((HB3.out.mono (by have := HB2.out.size; omega)).trans (HB4.out.mono (by have := HB2.out.size; have := HB3.out.size; omega)))) (by omega) (.int .i64 t1.f0) (.int .i64 t1.f1) (.slice B2 t1.f2.length b2) (.int .i64 t1.f3) (.int .i64 t1.f4) (.int .i64 t1.f5) (.string t1.f6) (.slice B7 t1.f7.length b7)
  have hMf := k35.M_mono (fun k hk => hk) (Kd.M_step (w1 := w8 w4 (w.heap.size + 1) (.int .i64 t1.f0) (.int .i64 t1.f1) (.slice B2 t1.f2.length b2) (.int .i64 t1.f3) (.int .i64 t1.f4) (.int .i64 t1.f5) (.string t1.f6) (.slice B7 t1.f7.length b7)) HM4.out fun k hk _ => w8_far w4 (by have := HB2.out.size; have := HB3.out.size; omega) (.int .i64 t1.f0) (.int .i64 t1.f1) (.slice B2 t1.f2.length b2) (.int .i64 t1.f3) (.int .i64 t1.f4) (.int .i64 t1.f5) (.string t1.f6) (.slice B7 t1.f7.length b7))
  have hK := k35.K_of_M hMf
  obtain ⟨B2', b2', B7', b7', e, g1, g2, g3, g4⟩ := k35_open hK
  simp only [List.cons.injEq, true_and, and_true, Value.slice.injEq] at e
  obtain ⟨⟨rfl, rfl⟩, rfl, rfl⟩ := e
  have hw1 := k_wf t1 hK
  have a0 := (blk_cell HA0 0).trans rfl
  have a1 := (blk_cell HA0 1).trans rfl
  have a2 := (blk_cell HA0 2).trans rfl
  have a3 := (blk_cell HA0 3).trans rfl
  have a4 := (blk_cell HA0 4).trans rfl
  have a5 := (blk_cell HA0 5).trans rfl
  have a6 := (blk_cell HA0 6).trans rfl
  have a7 := (blk_cell HA0 7).trans rfl
  refine bodyPost_ret (v := .tuple #[.agg #[.int .i64 t1.f0, .int .i64 t1.f1, .slice B2 t1.f2.length b2, .int .i64 t1.f3, .int .i64 t1.f4, .int .i64 t1.f5, .string t1.f6, .slice B7 t1.f7.length b7], .bool true]) (by simp [results, Try.results20, go_sem, a0, a1, a2, a3, a4, a5, a6, a7]) rfl ?_
  exact ⟨B2, b2, B7, b7, t1, rfl, HBA, g2, g1, g4, g3, hw1, HF3.out, HN3.out⟩
end Go.Proofs.Ytholpemmakdglaa.PFnSySimplifyTwice
namespace Go.Proofs.Ytholpemmakdglaa.PFnSySimplifyTwice
open Go.RowKit Go.Proofs.YtholpemmakdglaaW.PrintWords Go.Proofs.YtholpemmakdglaaW.PrintLast Go.Proofs.YtholpemmakdglaaW.PrintMore
set_option linter.unusedVariables false
set_option linter.unusedSimpArgs false
/-- The trees that a second Simplify meets and gives. -/
theorem twice {t t1 : Tr} (hf : fnT t1) (hn : nmT t1 = simT (flT t)) : simT (flT t1) = nmT t1 := by
  rw [fl_fn t1 hf, ← sim_nm t1, hn, sim_sim]
set_option maxRecDepth 100000 in
set_option maxHeartbeats 4000000 in
theorem law_c (t : Tr) (A2 : Option Addr) (c2 : Nat) (A7 : Option Addr) (c7 : Nat) (w : World) (hwf : wfT t) (hsz : szT t)
    (h2 : (Kd.int .i32).C w A2 t.f2.length t.f2) (hc2 : t.f2.length ≤ c2) (h7 : k35.C w A7 t.f7.length t.f7) (hc7 : t.f7.length ≤ c7) :
    Calls Try.prog 8 #[.agg #[.int .i64 t.f0, .int .i64 t.f1, .slice A2 t.f2.length c2, .int .i64 t.f3, .int .i64 t.f4, .int .i64 t.f5, .string t.f6, .slice A7 t.f7.length c7]] w fun e w' => e = .returned (.bool true) ∧ Below w.heap.size w w' := by
  obtain ⟨z, hz⟩ : ∃ z, laws_zzFits1.f t.f0 t.f1 t.f2 t.f3 t.f4 t.f5 t.f6 t.f7 = some z := by 
    unfold laws_zzFits1.f
    by_cases a : (t.f2.length : Int) > 2147483647
    · exact ⟨false, by rw [if_pos a]⟩
    by_cases b : (t.f6.size : Int) > 2147483647
    · exact ⟨false, by rw [if_neg a, if_pos b]⟩
    by_cases c : (t.f7.length : Int) > 2147483647
    · exact ⟨false, by rw [if_neg a, if_neg b, if_pos c]⟩
    · exact ⟨true, by rw [if_neg a, if_neg b, if_neg c]⟩
  have C1 : Hid (∀ w1, Below w.heap.size w w1 → Calls Try.prog 16 #[.agg #[.int .i64 t.f0, .int .i64 t.f1, .slice A2 t.f2.length c2, .int .i64 t.f3, .int .i64 t.f4, .int .i64 t.f5, .string t.f6, .slice A7 t.f7.length c7]] w1 fun e w' => e = .returned (.bool z) ∧ Below w1.heap.size w1 w') := Lib.hid fun w1 hb =>
    laws_zzFits1.calls _ _ A2 c2 _ _ _ _ _ A7 c7 _ z w1 (Kd.C_below h2 hb) hc2 (Kd.C_below h7 hb) hc7 hz
  obtain ⟨k1, hk1⟩ := (sy_ev t hwf).rounds
  have C2 : Hid (∀ w1, Below w.heap.size w w1 → Calls Try.prog 17 #[.agg #[.int .i64 t.f0, .int .i64 t.f1, .slice A2 t.f2.length c2, .int .i64 t.f3, .int .i64 t.f4, .int .i64 t.f5, .string t.f6, .slice A7 t.f7.length c7]] w1 fun e w' => e = .returned (.bool (syT t)) ∧ Below w1.heap.size w1 w') := Lib.hid fun w1 hb =>
    laws_syTree.calls k1 _ _ A2 c2 _ _ _ _ _ A7 c7 _ _ w1 (Kd.C_below h2 hb) hc2 (Kd.C_below h7 hb) hc7 hk1
  have C4 : Hid (syT t = true → ∀ w1, Below w.heap.size w w1 → Calls Try.prog 20 #[.agg #[.int .i64 t.f0, .int .i64 t.f1, .slice A2 t.f2.length c2, .int .i64 t.f3, .int .i64 t.f4, .int .i64 t.f5, .string t.f6, .slice A7 t.f7.length c7]] w1 (SyP w1 t)) := Lib.hid fun hs w1 hb => by
    obtain ⟨hg, hnc, hwg⟩ := sy_good2 hsz hs
    exact sySimplify_c t A2 c2 A7 c7 w1 hwf hsz hg hnc (by omega) (Kd.C_below h2 hb) hc2 (Kd.C_below h7 hb) hc7
  have CG : Hid (syT t = true → snT (flT t) ∧ wgT (flT t) ≤ 2000) := Lib.hid fun hs => by
    obtain ⟨hg, hnc, hwg⟩ := sy_good2 hsz hs
    exact ⟨sn_fl t (sn_gd t 1 hg), by rw [wg_fl]; exact hwg⟩
  clear hwf hsz h2 h7 hz hk1
  have hb1 : Below w.heap.size w (w.alloc (.cells #[.int .i64 t.f0, .int .i64 t.f1, .slice A2 t.f2.length c2, .int .i64 t.f3, .int .i64 t.f4, .int .i64 t.f5, .string t.f6, .slice A7 t.f7.length c7] 35)) := (Below.refl _ _).alloc (Nat.le_refl _) _
  have HB1 := Lib.hid hb1
  have k0 := Mem.blk_new w (.cells #[.int .i64 t.f0, .int .i64 t.f1, .slice A2 t.f2.length c2, .int .i64 t.f3, .int .i64 t.f4, .int .i64 t.f5, .string t.f6, .slice A7 t.f7.length c7] 35)
  have d0 : (w.alloc (.cells #[.int .i64 t.f0, .int .i64 t.f1, .slice A2 t.f2.length c2, .int .i64 t.f3, .int .i64 t.f4, .int .i64 t.f5, .string t.f6, .slice A7 t.f7.length c7] 35)).cell? ⟨w.heap.size, 0, none⟩ = some (.int .i64 t.f0) := (blk_cell k0 0).trans rfl
  have d1 : (w.alloc (.cells #[.int .i64 t.f0, .int .i64 t.f1, .slice A2 t.f2.length c2, .int .i64 t.f3, .int .i64 t.f4, .int .i64 t.f5, .string t.f6, .slice A7 t.f7.length c7] 35)).cell? ⟨w.heap.size, 1, none⟩ = some (.int .i64 t.f1) := (blk_cell k0 1).trans rfl
  have d2 : (w.alloc (.cells #[.int .i64 t.f0, .int .i64 t.f1, .slice A2 t.f2.length c2, .int .i64 t.f3, .int .i64 t.f4, .int .i64 t.f5, .string t.f6, .slice A7 t.f7.length c7] 35)).cell? ⟨w.heap.size, 2, none⟩ = some (.slice A2 t.f2.length c2) := (blk_cell k0 2).trans rfl
  have d3 : (w.alloc (.cells #[.int .i64 t.f0, .int .i64 t.f1, .slice A2 t.f2.length c2, .int .i64 t.f3, .int .i64 t.f4, .int .i64 t.f5, .string t.f6, .slice A7 t.f7.length c7] 35)).cell? ⟨w.heap.size, 3, none⟩ = some (.int .i64 t.f3) := (blk_cell k0 3).trans rfl
  have d4 : (w.alloc (.cells #[.int .i64 t.f0, .int .i64 t.f1, .slice A2 t.f2.length c2, .int .i64 t.f3, .int .i64 t.f4, .int .i64 t.f5, .string t.f6, .slice A7 t.f7.length c7] 35)).cell? ⟨w.heap.size, 4, none⟩ = some (.int .i64 t.f4) := (blk_cell k0 4).trans rfl
  have d5 : (w.alloc (.cells #[.int .i64 t.f0, .int .i64 t.f1, .slice A2 t.f2.length c2, .int .i64 t.f3, .int .i64 t.f4, .int .i64 t.f5, .string t.f6, .slice A7 t.f7.length c7] 35)).cell? ⟨w.heap.size, 5, none⟩ = some (.int .i64 t.f5) := (blk_cell k0 5).trans rfl
  have d6 : (w.alloc (.cells #[.int .i64 t.f0, .int .i64 t.f1, .slice A2 t.f2.length c2, .int .i64 t.f3, .int .i64 t.f4, .int .i64 t.f5, .string t.f6, .slice A7 t.f7.length c7] 35)).cell? ⟨w.heap.size, 6, none⟩ = some (.string t.f6) := (blk_cell k0 6).trans rfl
  have d7 : (w.alloc (.cells #[.int .i64 t.f0, .int .i64 t.f1, .slice A2 t.f2.length c2, .int .i64 t.f3, .int .i64 t.f4, .int .i64 t.f5, .string t.f6, .slice A7 t.f7.length c7] 35)).cell? ⟨w.heap.size, 7, none⟩ = some (.slice A7 t.f7.length c7) := (blk_cell k0 7).trans rfl
  clear k0 hb1
  cases z with
  | false =>
    go_enter Try.func8, Try.ntmps8
    go_wp2_with (go_at_call 16; refine (C1.out _ HB1.out).mono ?_; rintro e w2 ⟨rfl, hb2⟩)
    go_ret
    exact ⟨rfl, HB1.out.trans (hb2.mono HB1.out.size)⟩
  | true =>
    cases hs : syT t with
    | false =>
      rw [hs] at C2
      clear hs C4 CG
      go_enter Try.func8, Try.ntmps8
      go_wp2_with (first
        | (go_at_call 16; refine (C1.out _ HB1.out).mono ?_; rintro e w2 ⟨rfl, hb2⟩; have HB2 := Lib.hid (HB1.out.trans (hb2.mono HB1.out.size)); have e0 := Gb.cellB hb2 d0; have e1 := Gb.cellB hb2 d1; have e2 := Gb.cellB hb2 d2; have e3 := Gb.cellB hb2 d3; have e4 := Gb.cellB hb2 d4; have e5 := Gb.cellB hb2 d5; have e6 := Gb.cellB hb2 d6; have e7 := Gb.cellB hb2 d7; clear d0 d1 d2 d3 d4 d5 d6 d7; clear hb2)
        | (go_at_call 17; refine (C2.out _ HB2.out).mono ?_; rintro e w3 ⟨rfl, hb3⟩))
      go_ret
      exact ⟨rfl, HB2.out.trans (hb3.mono HB2.out.size)⟩
    | true =>
      rw [hs] at C2
      have C5 := Lib.hid (C4.out hs)
      have CG2 := Lib.hid (CG.out hs)
      clear hs C4 CG
      go_enter Try.func8, Try.ntmps8
      go_upto_region 6 with (first
        | (go_at_call 16; refine (C1.out _ HB1.out).mono ?_; rintro e w2 ⟨rfl, hb2⟩; have HB2 := Lib.hid (HB1.out.trans (hb2.mono HB1.out.size)); have e0 := Gb.cellB hb2 d0; have e1 := Gb.cellB hb2 d1; have e2 := Gb.cellB hb2 d2; have e3 := Gb.cellB hb2 d3; have e4 := Gb.cellB hb2 d4; have e5 := Gb.cellB hb2 d5; have e6 := Gb.cellB hb2 d6; have e7 := Gb.cellB hb2 d7; clear d0 d1 d2 d3 d4 d5 d6 d7; clear hb2)
        | (go_at_call 17; refine (C2.out _ HB2.out).mono ?_; rintro e w3 ⟨rfl, hb3⟩; have HB3 := Lib.hid (HB2.out.trans (hb3.mono HB2.out.size)); have x0 := Gb.cellB hb3 e0; have x1 := Gb.cellB hb3 e1; have x2 := Gb.cellB hb3 e2; have x3 := Gb.cellB hb3 e3; have x4 := Gb.cellB hb3 e4; have x5 := Gb.cellB hb3 e5; have x6 := Gb.cellB hb3 e6; have x7 := Gb.cellB hb3 e7; clear e0 e1 e2 e3 e4 e5 e6 e7; clear hb3)
        | (go_at_call 20; refine (C5.out _ HB3.out).mono ?_; rintro e w4 ⟨B2, b2, B7, b7, t1, rfl, hb4, g2, l2, g7, l7, hw1, hf1, hn1⟩; have HB4 := Lib.hid (HB3.out.trans (hb4.mono HB3.out.size)); have G2 := Lib.hid g2; have G7 := Lib.hid g7; have HN1 := Lib.hid hn1; have HW1 := Lib.hid hw1; have HF1 := Lib.hid hf1; clear hb4 g2 g7 hn1 hw1 hf1 x0 x1 x2 x3 x4 x5 x6 x7))
      have BA4 : Below w4.heap.size w4 (w4.alloc (.cells #[.int .i64 t1.f0, .int .i64 t1.f1, .slice B2 t1.f2.length b2, .int .i64 t1.f3, .int .i64 t1.f4, .int .i64 t1.f5, .string t1.f6, .slice B7 t1.f7.length b7] 35)) := (Below.refl _ _).alloc (Nat.le_refl _) _
      have hk5 := Mem.blk_new w4 (.cells #[.int .i64 t1.f0, .int .i64 t1.f1, .slice B2 t1.f2.length b2, .int .i64 t1.f3, .int .i64 t1.f4, .int .i64 t1.f5, .string t1.f6, .slice B7 t1.f7.length b7] 35)
      generalize w4.alloc (.cells #[.int .i64 t1.f0, .int .i64 t1.f1, .slice B2 t1.f2.length b2, .int .i64 t1.f3, .int .i64 t1.f4, .int .i64 t1.f5, .string t1.f6, .slice B7 t1.f7.length b7] 35) = W5 at *
      have y0 : W5.cell? ⟨w4.heap.size, 0, none⟩ = some (.int .i64 t1.f0) := (blk_cell hk5 0).trans rfl
      have y1 : W5.cell? ⟨w4.heap.size, 1, none⟩ = some (.int .i64 t1.f1) := (blk_cell hk5 1).trans rfl
      have y2 : W5.cell? ⟨w4.heap.size, 2, none⟩ = some (.slice B2 t1.f2.length b2) := (blk_cell hk5 2).trans rfl
      have y3 : W5.cell? ⟨w4.heap.size, 3, none⟩ = some (.int .i64 t1.f3) := (blk_cell hk5 3).trans rfl
      have y4 : W5.cell? ⟨w4.heap.size, 4, none⟩ = some (.int .i64 t1.f4) := (blk_cell hk5 4).trans rfl
      have y5 : W5.cell? ⟨w4.heap.size, 5, none⟩ = some (.int .i64 t1.f5) := (blk_cell hk5 5).trans rfl
      have y6 : W5.cell? ⟨w4.heap.size, 6, none⟩ = some (.string t1.f6) := (blk_cell hk5 6).trans rfl
      have y7 : W5.cell? ⟨w4.heap.size, 7, none⟩ = some (.slice B7 t1.f7.length b7) := (blk_cell hk5 7).trans rfl
      have HB5 := Lib.hid (HB4.out.trans (BA4.mono HB4.out.size))
      have GG2 := Lib.hid (Kd.C_below G2.out BA4)
      have GG7 := Lib.hid (Kd.C_below G7.out BA4)
      have hgd := good_sim CG2.out.1 CG2.out.2 HN1.out
      have hwg : wgT t1 ≤ 5000 := by
        have h1 := nc_sim (flT t) CG2.out.1
        have h2 := CG2.out.2
        have h3 : wgT t1 = ncT (simT (flT t)) := by rw [← wg_nm t1, HN1.out]; exact wg_fx _ (fx_sim _)
        omega
      have C6 := Lib.hid (sySimplify_c t1 B2 b2 B7 b7 W5 HW1.out (sz_fn t1 HF1.out) hgd.1 (by omega) hwg GG2.out l2 GG7.out l7)
      have HK5 := Lib.hid hk5
      clear BA4 hk5 hgd hwg C5 CG2 C1 C2
      go_upto_region 7 with (go_at_call 20; refine C6.out.mono ?_; rintro e w6 ⟨D2, d2, D7, d7, t2, rfl, hb6, g2, m2, g7, m7, hw2, hf2, hn2⟩)
      rw [twice HF1.out HN1.out] at hn2
      have BA6 : Below w6.heap.size w6 (w6.alloc (.cells #[.int .i64 t2.f0, .int .i64 t2.f1, .slice D2 t2.f2.length d2, .int .i64 t2.f3, .int .i64 t2.f4, .int .i64 t2.f5, .string t2.f6, .slice D7 t2.f7.length d7] 35)) := (Below.refl _ _).alloc (Nat.le_refl _) _
      have hk7 := Mem.blk_new w6 (.cells #[.int .i64 t2.f0, .int .i64 t2.f1, .slice D2 t2.f2.length d2, .int .i64 t2.f3, .int .i64 t2.f4, .int .i64 t2.f5, .string t2.f6, .slice D7 t2.f7.length d7] 35)
      have hb57 := hb6.trans (BA6.mono hb6.size)
      have hk57 := (hb57.block w4.heap.size (lt_of_block HK5.out)).trans HK5.out
      obtain ⟨ks, hks⟩ := (same_ev t1 t2 hn2.symm HW1.out).rounds
      have CS := Lib.hid (spec_SySame.calls ks _ _ B2 b2 _ _ _ _ _ B7 b7 _ _ _ D2 d2 _ _ _ _ _ D7 d7 _ true (w6.alloc (.cells #[.int .i64 t2.f0, .int .i64 t2.f1, .slice D2 t2.f2.length d2, .int .i64 t2.f3, .int .i64 t2.f4, .int .i64 t2.f5, .string t2.f6, .slice D7 t2.f7.length d7] 35)) (Kd.C_below GG2.out hb57) l2 (Kd.C_below GG7.out hb57) l7 (Kd.C_below g2 BA6) m2 (Kd.C_below g7 BA6) m7 hks)
      have HB7 := Lib.hid (HB5.out.trans (hb57.mono HB5.out.size))
      generalize w6.alloc (.cells #[.int .i64 t2.f0, .int .i64 t2.f1, .slice D2 t2.f2.length d2, .int .i64 t2.f3, .int .i64 t2.f4, .int .i64 t2.f5, .string t2.f6, .slice D7 t2.f7.length d7] 35) = W7 at *
      have u0 : W7.cell? ⟨w4.heap.size, 0, none⟩ = some (.int .i64 t1.f0) := (blk_cell hk57 0).trans rfl
      have u1 : W7.cell? ⟨w4.heap.size, 1, none⟩ = some (.int .i64 t1.f1) := (blk_cell hk57 1).trans rfl
      have u2 : W7.cell? ⟨w4.heap.size, 2, none⟩ = some (.slice B2 t1.f2.length b2) := (blk_cell hk57 2).trans rfl
      have u3 : W7.cell? ⟨w4.heap.size, 3, none⟩ = some (.int .i64 t1.f3) := (blk_cell hk57 3).trans rfl
      have u4 : W7.cell? ⟨w4.heap.size, 4, none⟩ = some (.int .i64 t1.f4) := (blk_cell hk57 4).trans rfl
      have u5 : W7.cell? ⟨w4.heap.size, 5, none⟩ = some (.int .i64 t1.f5) := (blk_cell hk57 5).trans rfl
      have u6 : W7.cell? ⟨w4.heap.size, 6, none⟩ = some (.string t1.f6) := (blk_cell hk57 6).trans rfl
      have u7 : W7.cell? ⟨w4.heap.size, 7, none⟩ = some (.slice B7 t1.f7.length b7) := (blk_cell hk57 7).trans rfl
      have v0 : W7.cell? ⟨w6.heap.size, 0, none⟩ = some (.int .i64 t2.f0) := (blk_cell hk7 0).trans rfl
      have v1 : W7.cell? ⟨w6.heap.size, 1, none⟩ = some (.int .i64 t2.f1) := (blk_cell hk7 1).trans rfl
      have v2 : W7.cell? ⟨w6.heap.size, 2, none⟩ = some (.slice D2 t2.f2.length d2) := (blk_cell hk7 2).trans rfl
      have v3 : W7.cell? ⟨w6.heap.size, 3, none⟩ = some (.int .i64 t2.f3) := (blk_cell hk7 3).trans rfl
      have v4 : W7.cell? ⟨w6.heap.size, 4, none⟩ = some (.int .i64 t2.f4) := (blk_cell hk7 4).trans rfl
      have v5 : W7.cell? ⟨w6.heap.size, 5, none⟩ = some (.int .i64 t2.f5) := (blk_cell hk7 5).trans rfl
      have v6 : W7.cell? ⟨w6.heap.size, 6, none⟩ = some (.string t2.f6) := (blk_cell hk7 6).trans rfl
      have v7 : W7.cell? ⟨w6.heap.size, 7, none⟩ = some (.slice D7 t2.f7.length d7) := (blk_cell hk7 7).trans rfl
      clear hb6 g2 g7 hw2 hf2 hn2 hks hb57 hk57 hk7 BA6 C6 y0 y1 y2 y3 y4 y5 y6 y7
      go_wp2_with (go_at_call 21; refine CS.out.mono ?_; rintro e w8 ⟨rfl, hb8⟩)
      go_ret
      exact ⟨rfl, HB7.out.trans (hb8.mono HB7.out.size)⟩
end Go.Proofs.Ytholpemmakdglaa.PFnSySimplifyTwice
