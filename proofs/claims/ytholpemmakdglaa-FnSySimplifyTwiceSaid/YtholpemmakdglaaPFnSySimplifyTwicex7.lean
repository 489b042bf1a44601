-- PRINTED BY print.sh 35421559b90ae4d0a3588c463048766b98c2df88dd9212a6774a882060cdf62d: not written by this session
import Derived.Test.YtholpemmakdglaaPFnSySimplifyTwicex0
import Derived.Test.YtholpemmakdglaaPFnSySimplifyTwicex6
namespace Go.Proofs.Ytholpemmakdglaa.PFnSySimplifyTwice
open Go.RowKit Go.Proofs.YtholpemmakdglaaW.PrintWords Go.Proofs.YtholpemmakdglaaW.PrintLast Go.Proofs.YtholpemmakdglaaW.PrintMore
attribute [local go_sem] max2_int min2_int max_two min_two max_three min_three max_four min_four   -- for this text's walks alone
set_option linter.unusedVariables false
set_option linter.unusedSimpArgs false

/-! ### spec_SySame: function 21 -/
mutual
def spec_SySame.j0 : Nat → Bool → Int → Int → List Int → Int → Int → Int → ByteArray → List (S35) → Int → Int → List Int → Int → Int → Int → ByteArray → List (S35) → Option (Bool)
  | 0, _, _, _, _, _, _, _, _, _, _, _, _, _, _, _, _, _ => none
  | k + 1, x20, x147000, x147001, x147002, x147003, x147004, x147005, x147006, x147007, x148000, x148001, x148002, x148003, x148004, x148005, x148006, x148007 => if x20 = true then (some false) else (if x147000 = 10 then ((spec_syBits.f x147000 x147001 x147002 x147003 x147004 x147005 x147006 x147007 x148000 x148001 x148002 x148003 x148004 x148005 x148006 x148007 256).bind fun t148 => (spec_SySame.j3 k t148 x147000 x147001 x147002 x147003 x147004 x147005 x147006 x147007 x148000 x148001 x148002 x148003 x148004 x148005 x148006 x148007)) else (if x147000 = 3 then (spec_SySame.j1 k true x147000 (x147000 == 3) x147000 x147001 x147002 x147003 x147004 x147005 x147006 x147007 x148000 x148001 x148002 x148003 x148004 x148005 x148006 x148007) else (spec_SySame.j1 k true x147000 (x147000 == 4) x147000 x147001 x147002 x147003 x147004 x147005 x147006 x147007 x148000 x148001 x148002 x148003 x148004 x148005 x148006 x148007)))
def spec_SySame.j3 : Nat → Bool → Int → Int → List Int → Int → Int → Int → ByteArray → List (S35) → Int → Int → List Int → Int → Int → Int → ByteArray → List (S35) → Option (Bool)
  | 0, _, _, _, _, _, _, _, _, _, _, _, _, _, _, _, _, _ => none
  | k + 1, x5, x147000, x147001, x147002, x147003, x147004, x147005, x147006, x147007, x148000, x148001, x148002, x148003, x148004, x148005, x148006, x148007 => spec_SySame.l0 k x5 0 x147000 x147001 x147002 x147003 x147004 x147005 x147006 x147007 x148000 x148001 x148002 x148003 x148004 x148005 x148006 x148007
def spec_SySame.l0 : Nat → Bool → Int → Int → Int → List Int → Int → Int → Int → ByteArray → List (S35) → Int → Int → List Int → Int → Int → Int → ByteArray → List (S35) → Option (Bool)
  | 0, _, _, _, _, _, _, _, _, _, _, _, _, _, _, _, _, _, _ => none
  | k + 1, x5, x6, x147000, x147001, x147002, x147003, x147004, x147005, x147006, x147007, x148000, x148001, x148002, x148003, x148004, x148005, x148006, x148007 => if x5 = true then (if x6 < (x147007.length : Int) then (if 0 ≤ x6 then (if x6 < (x148007.length : Int) then ((spec_SySame.f k ((rd_T35 x147007 x6).f0) ((rd_T35 x147007 x6).f1) ((rd_T35 x147007 x6).f2) ((rd_T35 x147007 x6).f3) ((rd_T35 x147007 x6).f4) ((rd_T35 x147007 x6).f5) ((rd_T35 x147007 x6).f6) ((rd_T35 x147007 x6).f7) ((rd_T35 x148007 x6).f0) ((rd_T35 x148007 x6).f1) ((rd_T35 x148007 x6).f2) ((rd_T35 x148007 x6).f3) ((rd_T35 x148007 x6).f4) ((rd_T35 x148007 x6).f5) ((rd_T35 x148007 x6).f6) ((rd_T35 x148007 x6).f7)).bind fun t155 => (spec_SySame.l0 k t155 (wrap64 (x6 + 1)) x147000 x147001 x147002 x147003 x147004 x147005 x147006 x147007 x148000 x148001 x148002 x148003 x148004 x148005 x148006 x148007)) else (none)) else (none)) else (some x5)) else (some x5)
def spec_SySame.j1 : Nat → Bool → Int → Bool → Int → Int → List Int → Int → Int → Int → ByteArray → List (S35) → Int → Int → List Int → Int → Int → Int → ByteArray → List (S35) → Option (Bool)
  | 0, _, _, _, _, _, _, _, _, _, _, _, _, _, _, _, _, _, _, _ => none
  | k + 1, x5, x22, x28, x147000, x147001, x147002, x147003, x147004, x147005, x147006, x147007, x148000, x148001, x148002, x148003, x148004, x148005, x148006, x148007 => if x28 = true then ((spec_syBits.f x147000 x147001 x147002 x147003 x147004 x147005 x147006 x147007 x148000 x148001 x148002 x148003 x148004 x148005 x148006 x148007 1).bind fun t149 => (if t149 = true then ((spec_syRunes.f k x147002 x148002).bind fun t150 => (spec_SySame.j3 k t150 x147000 x147001 x147002 x147003 x147004 x147005 x147006 x147007 x148000 x148001 x148002 x148003 x148004 x148005 x148006 x148007)) else (spec_SySame.j3 k false x147000 x147001 x147002 x147003 x147004 x147005 x147006 x147007 x148000 x148001 x148002 x148003 x148004 x148005 x148006 x148007))) else (if x22 = 14 then (spec_SySame.j2 k x5 x22 (x22 == 14) x147000 x147001 x147002 x147003 x147004 x147005 x147006 x147007 x148000 x148001 x148002 x148003 x148004 x148005 x148006 x148007) else (if x22 = 15 then (spec_SySame.j2 k x5 x22 (x22 == 15) x147000 x147001 x147002 x147003 x147004 x147005 x147006 x147007 x148000 x148001 x148002 x148003 x148004 x148005 x148006 x148007) else (spec_SySame.j2 k x5 x22 (x22 == 16) x147000 x147001 x147002 x147003 x147004 x147005 x147006 x147007 x148000 x148001 x148002 x148003 x148004 x148005 x148006 x148007)))
def spec_SySame.j2 : Nat → Bool → Int → Bool → Int → Int → List Int → Int → Int → Int → ByteArray → List (S35) → Int → Int → List Int → Int → Int → Int → ByteArray → List (S35) → Option (Bool)
  | 0, _, _, _, _, _, _, _, _, _, _, _, _, _, _, _, _, _, _, _ => none
  | k + 1, x5, x22, x41, x147000, x147001, x147002, x147003, x147004, x147005, x147006, x147007, x148000, x148001, x148002, x148003, x148004, x148005, x148006, x148007 => if x41 = true then ((spec_syBits.f x147000 x147001 x147002 x147003 x147004 x147005 x147006 x147007 x148000 x148001 x148002 x148003 x148004 x148005 x148006 x148007 32).bind fun t151 => (spec_SySame.j3 k t151 x147000 x147001 x147002 x147003 x147004 x147005 x147006 x147007 x148000 x148001 x148002 x148003 x148004 x148005 x148006 x148007)) else (if x22 = 17 then ((spec_syBits.f x147000 x147001 x147002 x147003 x147004 x147005 x147006 x147007 x148000 x148001 x148002 x148003 x148004 x148005 x148006 x148007 32).bind fun t152 => (if t152 = true then (if x147003 = x148003 then (spec_SySame.j3 k (x147004 == x148004) x147000 x147001 x147002 x147003 x147004 x147005 x147006 x147007 x148000 x148001 x148002 x148003 x148004 x148005 x148006 x148007) else (spec_SySame.j3 k false x147000 x147001 x147002 x147003 x147004 x147005 x147006 x147007 x148000 x148001 x148002 x148003 x148004 x148005 x148006 x148007)) else (spec_SySame.j3 k false x147000 x147001 x147002 x147003 x147004 x147005 x147006 x147007 x148000 x148001 x148002 x148003 x148004 x148005 x148006 x148007))) else (if x22 = 13 then (if x147005 = x148005 then (spec_SySame.j3 k (x147006.toList == x148006.toList) x147000 x147001 x147002 x147003 x147004 x147005 x147006 x147007 x148000 x148001 x148002 x148003 x148004 x148005 x148006 x148007) else (spec_SySame.j3 k false x147000 x147001 x147002 x147003 x147004 x147005 x147006 x147007 x148000 x148001 x148002 x148003 x148004 x148005 x148006 x148007)) else (spec_SySame.j3 k x5 x147000 x147001 x147002 x147003 x147004 x147005 x147006 x147007 x148000 x148001 x148002 x148003 x148004 x148005 x148006 x148007)))
def spec_SySame.f : Nat → Int → Int → List Int → Int → Int → Int → ByteArray → List (S35) → Int → Int → List Int → Int → Int → Int → ByteArray → List (S35) → Option (Bool)
  | 0, _, _, _, _, _, _, _, _, _, _, _, _, _, _, _, _ => none
  | k + 1, a0_0, a0_1, l0_2, a0_3, a0_4, a0_5, a0_6, l0_7, a1_0, a1_1, l1_2, a1_3, a1_4, a1_5, a1_6, l1_7 => if a0_0 = a1_0 then (spec_SySame.j0 k ((l0_7.length : Int) != (l1_7.length : Int)) a0_0 a0_1 l0_2 a0_3 a0_4 a0_5 a0_6 l0_7 a1_0 a1_1 l1_2 a1_3 a1_4 a1_5 a1_6 l1_7) else (spec_SySame.j0 k true a0_0 a0_1 l0_2 a0_3 a0_4 a0_5 a0_6 l0_7 a1_0 a1_1 l1_2 a1_3 a1_4 a1_5 a1_6 l1_7)
end
theorem spec_SySame.mono_l : ∀ k, (∀ y0 y1 y2 y3 y4 y5 y6 y7 y8 y9 y10 y11 y12 y13 y14 y15, LeO (spec_SySame.f k y0 y1 y2 y3 y4 y5 y6 y7 y8 y9 y10 y11 y12 y13 y14 y15) (spec_SySame.f (k + 1) y0 y1 y2 y3 y4 y5 y6 y7 y8 y9 y10 y11 y12 y13 y14 y15)) ∧ (∀ y0 y1 y2 y3 y4 y5 y6 y7 y8 y9 y10 y11 y12 y13 y14 y15 y16, LeO (spec_SySame.j0 k y0 y1 y2 y3 y4 y5 y6 y7 y8 y9 y10 y11 y12 y13 y14 y15 y16) (spec_SySame.j0 (k + 1) y0 y1 y2 y3 y4 y5 y6 y7 y8 y9 y10 y11 y12 y13 y14 y15 y16)) ∧ (∀ y0 y1 y2 y3 y4 y5 y6 y7 y8 y9 y10 y11 y12 y13 y14 y15 y16, LeO (spec_SySame.j3 k y0 y1 y2 y3 y4 y5 y6 y7 y8 y9 y10 y11 y12 y13 y14 y15 y16) (spec_SySame.j3 (k + 1) y0 y1 y2 y3 y4 y5 y6 y7 y8 y9 y10 y11 y12 y13 y14 y15 y16)) ∧ (∀ y0 y1 y2 y3 y4 y5 y6 y7 y8 y9 y10 y11 y12 y13 y14 y15 y16 y17, LeO (spec_SySame.l0 k y0 y1 y2 y3 y4 y5 y6 y7 y8 y9 y10 y11 y12 y13 y14 y15 y16 y17) (spec_SySame.l0 (k + 1) y0 y1 y2 y3 y4 y5 y6 y7 y8 y9 y10 y11 y12 y13 y14 y15 y16 y17)) ∧ (∀ y0 y1 y2 y3 y4 y5 y6 y7 y8 y9 y10 y11 y12 y13 y14 y15 y16 y17 y18, LeO (spec_SySame.j1 k y0 y1 y2 y3 y4 y5 y6 y7 y8 y9 y10 y11 y12 y13 y14 y15 y16 y17 y18) (spec_SySame.j1 (k + 1) y0 y1 y2 y3 y4 y5 y6 y7 y8 y9 y10 y11 y12 y13 y14 y15 y16 y17 y18)) ∧ (∀ y0 y1 y2 y3 y4 y5 y6 y7 y8 y9 y10 y11 y12 y13 y14 y15 y16 y17 y18, LeO (spec_SySame.j2 k y0 y1 y2 y3 y4 y5 y6 y7 y8 y9 y10 y11 y12 y13 y14 y15 y16 y17 y18) (spec_SySame.j2 (k + 1) y0 y1 y2 y3 y4 y5 y6 y7 y8 y9 y10 y11 y12 y13 y14 y15 y16 y17 y18))
  | 0 => ⟨fun _ _ _ _ _ _ _ _ _ _ _ _ _ _ _ _ r h => by simp [spec_SySame.f] at h, fun _ _ _ _ _ _ _ _ _ _ _ _ _ _ _ _ _ r h => by simp [spec_SySame.j0] at h, fun _ _ _ _ _ _ _ _ _ _ _ _ _ _ _ _ _ r h => by simp [spec_SySame.j3] at h, fun _ _ _ _ _ _ _ _ _ _ _ _ _ _ _ _ _ _ r h => by simp [spec_SySame.l0] at h, fun _ _ _ _ _ _ _ _ _ _ _ _ _ _ _ _ _ _ _ r h => by simp [spec_SySame.j1] at h, fun _ _ _ _ _ _ _ _ _ _ _ _ _ _ _ _ _ _ _ r h => by simp [spec_SySame.j2] at h⟩
  | k + 1 => by
    obtain ⟨ih0, ih1, ih2, ih3, ih4, ih5⟩ := spec_SySame.mono_l k
    refine ⟨?_, ?_, ?_, ?_, ?_, ?_⟩
    · intro y0 y1 y2 y3 y4 y5 y6 y7 y8 y9 y10 y11 y12 y13 y14 y15
      unfold spec_SySame.f
      repeat' first
      | (with_reducible exact ih0 _ _ _ _ _ _ _ _ _ _ _ _ _ _ _ _)
      | (with_reducible exact ih1 _ _ _ _ _ _ _ _ _ _ _ _ _ _ _ _ _)
      | (with_reducible exact ih2 _ _ _ _ _ _ _ _ _ _ _ _ _ _ _ _ _)
      | (with_reducible exact ih3 _ _ _ _ _ _ _ _ _ _ _ _ _ _ _ _ _ _)
      | (with_reducible exact ih4 _ _ _ _ _ _ _ _ _ _ _ _ _ _ _ _ _ _ _)
      | (with_reducible exact ih5 _ _ _ _ _ _ _ _ _ _ _ _ _ _ _ _ _ _ _)
      | (with_reducible exact spec_syRunes.mono _ _ _)
      | (with_reducible exact LeO.refl _)
      | (with_reducible exact LeO.none _)
      | (with_reducible refine LeO.ite ?_ ?_)
      | (with_reducible refine LeO.bind ?_ (fun _ => ?_))
      | exact ih0 _ _ _ _ _ _ _ _ _ _ _ _ _ _ _ _
      | exact ih1 _ _ _ _ _ _ _ _ _ _ _ _ _ _ _ _ _
      | exact ih2 _ _ _ _ _ _ _ _ _ _ _ _ _ _ _ _ _
      | exact ih3 _ _ _ _ _ _ _ _ _ _ _ _ _ _ _ _ _ _
      | exact ih4 _ _ _ _ _ _ _ _ _ _ _ _ _ _ _ _ _ _ _
      | exact ih5 _ _ _ _ _ _ _ _ _ _ _ _ _ _ _ _ _ _ _
      | exact spec_syRunes.mono _ _ _
      | exact LeO.none _
      | refine LeO.ite ?_ ?_
      | refine LeO.bind ?_ (fun _ => ?_)
    · intro y0 y1 y2 y3 y4 y5 y6 y7 y8 y9 y10 y11 y12 y13 y14 y15 y16
      unfold spec_SySame.j0
      repeat' first
      | (with_reducible exact ih0 _ _ _ _ _ _ _ _ _ _ _ _ _ _ _ _)
      | (with_reducible exact ih1 _ _ _ _ _ _ _ _ _ _ _ _ _ _ _ _ _)
      | (with_reducible exact ih2 _ _ _ _ _ _ _ _ _ _ _ _ _ _ _ _ _)
      | (with_reducible exact ih3 _ _ _ _ _ _ _ _ _ _ _ _ _ _ _ _ _ _)
      | (with_reducible exact ih4 _ _ _ _ _ _ _ _ _ _ _ _ _ _ _ _ _ _ _)
      | (with_reducible exact ih5 _ _ _ _ _ _ _ _ _ _ _ _ _ _ _ _ _ _ _)
      | (with_reducible exact spec_syRunes.mono _ _ _)
      | (with_reducible exact LeO.refl _)
      | (with_reducible exact LeO.none _)
      | (with_reducible refine LeO.ite ?_ ?_)
      | (with_reducible refine LeO.bind ?_ (fun _ => ?_))
      | exact ih0 _ _ _ _ _ _ _ _ _ _ _ _ _ _ _ _
      | exact ih1 _ _ _ _ _ _ _ _ _ _ _ _ _ _ _ _ _
      | exact ih2 _ _ _ _ _ _ _ _ _ _ _ _ _ _ _ _ _
      | exact ih3 _ _ _ _ _ _ _ _ _ _ _ _ _ _ _ _ _ _
      | exact ih4 _ _ _ _ _ _ _ _ _ _ _ _ _ _ _ _ _ _ _
      | exact ih5 _ _ _ _ _ _ _ _ _ _ _ _ _ _ _ _ _ _ _
      | exact spec_syRunes.mono _ _ _
      | exact LeO.none _
      | refine LeO.ite ?_ ?_
      | refine LeO.bind ?_ (fun _ => ?_)
    · intro y0 y1 y2 y3 y4 y5 y6 y7 y8 y9 y10 y11 y12 y13 y14 y15 y16
      unfold spec_SySame.j3
      repeat' first
      | (with_reducible exact ih0 _ _ _ _ _ _ _ _ _ _ _ _ _ _ _ _)
      | (with_reducible exact ih1 _ _ _ _ _ _ _ _ _ _ _ _ _ _ _ _ _)
      | (with_reducible exact ih2 _ _ _ _ _ _ _ _ _ _ _ _ _ _ _ _ _)
      | (with_reducible exact ih3 _ _ _ _ _ _ _ _ _ _ _ _ _ _ _ _ _ _)
      | (with_reducible exact ih4 _ _ _ _ _ _ _ _ _ _ _ _ _ _ _ _ _ _ _)
      | (with_reducible exact ih5 _ _ _ _ _ _ _ _ _ _ _ _ _ _ _ _ _ _ _)
      | (with_reducible exact spec_syRunes.mono _ _ _)
      | (with_reducible exact LeO.refl _)
      | (with_reducible exact LeO.none _)
      | (with_reducible refine LeO.ite ?_ ?_)
      | (with_reducible refine LeO.bind ?_ (fun _ => ?_))
      | exact ih0 _ _ _ _ _ _ _ _ _ _ _ _ _ _ _ _
      | exact ih1 _ _ _ _ _ _ _ _ _ _ _ _ _ _ _ _ _
      | exact ih2 _ _ _ _ _ _ _ _ _ _ _ _ _ _ _ _ _
      | exact ih3 _ _ _ _ _ _ _ _ _ _ _ _ _ _ _ _ _ _
      | exact ih4 _ _ _ _ _ _ _ _ _ _ _ _ _ _ _ _ _ _ _
      | exact ih5 _ _ _ _ _ _ _ _ _ _ _ _ _ _ _ _ _ _ _
      | exact spec_syRunes.mono _ _ _
      | exact LeO.none _
      | refine LeO.ite ?_ ?_
      | refine LeO.bind ?_ (fun _ => ?_)
    · intro y0 y1 y2 y3 y4 y5 y6 y7 y8 y9 y10 y11 y12 y13 y14 y15 y16 y17
      unfold spec_SySame.l0
      repeat' first
      | (with_reducible exact ih0 _ _ _ _ _ _ _ _ _ _ _ _ _ _ _ _)
      | (with_reducible exact ih1 _ _ _ _ _ _ _ _ _ _ _ _ _ _ _ _ _)
      | (with_reducible exact ih2 _ _ _ _ _ _ _ _ _ _ _ _ _ _ _ _ _)
      | (with_reducible exact ih3 _ _ _ _ _ _ _ _ _ _ _ _ _ _ _ _ _ _)
      | (with_reducible exact ih4 _ _ _ _ _ _ _ _ _ _ _ _ _ _ _ _ _ _ _)
      | (with_reducible exact ih5 _ _ _ _ _ _ _ _ _ _ _ _ _ _ _ _ _ _ _)
      | (with_reducible exact spec_syRunes.mono _ _ _)
      | (with_reducible exact LeO.refl _)
      | (with_reducible exact LeO.none _)
      | (with_reducible refine LeO.ite ?_ ?_)
      | (with_reducible refine LeO.bind ?_ (fun _ => ?_))
      | exact ih0 _ _ _ _ _ _ _ _ _ _ _ _ _ _ _ _
      | exact ih1 _ _ _ _ _ _ _ _ _ _ _ _ _ _ _ _ _
      | exact ih2 _ _ _ _ _ _ _ _ _ _ _ _ _ _ _ _ _
      | exact ih3 _ _ _ _ _ _ _ _ _ _ _ _ _ _ _ _ _ _
      | exact ih4 _ _ _ _ _ _ _ _ _ _ _ _ _ _ _ _ _ _ _
      | exact ih5 _ _ _ _ _ _ _ _ _ _ _ _ _ _ _ _ _ _ _
      | exact spec_syRunes.mono _ _ _
      | exact LeO.none _
      | refine LeO.ite ?_ ?_
      | refine LeO.bind ?_ (fun _ => ?_)
    · intro y0 y1 y2 y3 y4 y5 y6 y7 y8 y9 y10 y11 y12 y13 y14 y15 y16 y17 y18
      unfold spec_SySame.j1
      repeat' first
      | (with_reducible exact ih0 _ _ _ _ _ _ _ _ _ _ _ _ _ _ _ _)
      | (with_reducible exact ih1 _ _ _ _ _ _ _ _ _ _ _ _ _ _ _ _ _)
      | (with_reducible exact ih2 _ _ _ _ _ _ _ _ _ _ _ _ _ _ _ _ _)
      | (with_reducible exact ih3 _ _ _ _ _ _ _ _ _ _ _ _ _ _ _ _ _ _)
      | (with_reducible exact ih4 _ _ _ _ _ _ _ _ _ _ _ _ _ _ _ _ _ _ _)
      | (with_reducible exact ih5 _ _ _ _ _ _ _ _ _ _ _ _ _ _ _ _ _ _ _)
      | (with_reducible exact spec_syRunes.mono _ _ _)
      | (with_reducible exact LeO.refl _)
      | (with_reducible exact LeO.none _)
      | (with_reducible refine LeO.ite ?_ ?_)
      | (with_reducible refine LeO.bind ?_ (fun _ => ?_))
      | exact ih0 _ _ _ _ _ _ _ _ _ _ _ _ _ _ _ _
      | exact ih1 _ _ _ _ _ _ _ _ _ _ _ _ _ _ _ _ _
      | exact ih2 _ _ _ _ _ _ _ _ _ _ _ _ _ _ _ _ _
      | exact ih3 _ _ _ _ _ _ _ _ _ _ _ _ _ _ _ _ _ _
      | exact ih4 _ _ _ _ _ _ _ _ _ _ _ _ _ _ _ _ _ _ _
      | exact ih5 _ _ _ _ _ _ _ _ _ _ _ _ _ _ _ _ _ _ _
      | exact spec_syRunes.mono _ _ _
      | exact LeO.none _
      | refine LeO.ite ?_ ?_
      | refine LeO.bind ?_ (fun _ => ?_)
    · intro y0 y1 y2 y3 y4 y5 y6 y7 y8 y9 y10 y11 y12 y13 y14 y15 y16 y17 y18
      unfold spec_SySame.j2
      repeat' first
      | (with_reducible exact ih0 _ _ _ _ _ _ _ _ _ _ _ _ _ _ _ _)
      | (with_reducible exact ih1 _ _ _ _ _ _ _ _ _ _ _ _ _ _ _ _ _)
      | (with_reducible exact ih2 _ _ _ _ _ _ _ _ _ _ _ _ _ _ _ _ _)
      | (with_reducible exact ih3 _ _ _ _ _ _ _ _ _ _ _ _ _ _ _ _ _ _)
      | (with_reducible exact ih4 _ _ _ _ _ _ _ _ _ _ _ _ _ _ _ _ _ _ _)
      | (with_reducible exact ih5 _ _ _ _ _ _ _ _ _ _ _ _ _ _ _ _ _ _ _)
      | (with_reducible exact spec_syRunes.mono _ _ _)
      | (with_reducible exact LeO.refl _)
      | (with_reducible exact LeO.none _)
      | (with_reducible refine LeO.ite ?_ ?_)
      | (with_reducible refine LeO.bind ?_ (fun _ => ?_))
      | exact ih0 _ _ _ _ _ _ _ _ _ _ _ _ _ _ _ _
      | exact ih1 _ _ _ _ _ _ _ _ _ _ _ _ _ _ _ _ _
      | exact ih2 _ _ _ _ _ _ _ _ _ _ _ _ _ _ _ _ _
      | exact ih3 _ _ _ _ _ _ _ _ _ _ _ _ _ _ _ _ _ _
      | exact ih4 _ _ _ _ _ _ _ _ _ _ _ _ _ _ _ _ _ _ _
      | exact ih5 _ _ _ _ _ _ _ _ _ _ _ _ _ _ _ _ _ _ _
      | exact spec_syRunes.mono _ _ _
      | exact LeO.none _
      | refine LeO.ite ?_ ?_
      | refine LeO.bind ?_ (fun _ => ?_)
theorem spec_SySame.mono : ∀ a0 a1 a2 a3 a4 a5 a6 a7 a8 a9 a10 a11 a12 a13 a14 a15 k, LeO (spec_SySame.f k a0 a1 a2 a3 a4 a5 a6 a7 a8 a9 a10 a11 a12 a13 a14 a15) (spec_SySame.f (k + 1) a0 a1 a2 a3 a4 a5 a6 a7 a8 a9 a10 a11 a12 a13 a14 a15) := by
  intro a0 a1 a2 a3 a4 a5 a6 a7 a8 a9 a10 a11 a12 a13 a14 a15 k
  obtain ⟨ih0, ih1, ih2, ih3, ih4, ih5⟩ := spec_SySame.mono_l k
  exact ih0 a0 a1 a2 a3 a4 a5 a6 a7 a8 a9 a10 a11 a12 a13 a14 a15
def spec_SySame.T21 : Bool × List (List Nat × List Nat) := (true, [([], []), ([0], [0]), ([], []), ([1, 2], [1, 2]), ([3], [3]), ([], []), ([5], [5]), ([], []), ([6, 7], [6, 7]), ([8], [8]), ([4, 9], [4, 9]), ([10, 10, 0, 1, 2, 3, 4, 5, 6, 7, 8, 9, 10], [10])])
def spec_SySame.B21 : List Nat := [0, 1, 0, 7, 15, 0, 32, 0, 224, 480, 1023, 2047]
theorem spec_SySame.tab21 : rtab .any (opsOf Try.f21 21) = spec_SySame.T21 := by kernel_rfl
theorem spec_SySame.bits21 : waitsOk spec_SySame.T21.2 spec_SySame.B21 = true := by kernel_rfl
set_option maxHeartbeats 8000000 in
set_option maxRecDepth 100000 in
theorem spec_SySame.calls (k : Nat) : ∀ (a0_0 : Int) (a0_1 : Int) (A0_2 : Option Addr) (c0_2 : Nat) (l0_2 : List Int) (a0_3 : Int) (a0_4 : Int) (a0_5 : Int) (a0_6 : ByteArray) (A0_7 : Option Addr) (c0_7 : Nat) (l0_7 : List (S35)) (a1_0 : Int) (a1_1 : Int) (A1_2 : Option Addr) (c1_2 : Nat) (l1_2 : List Int) (a1_3 : Int) (a1_4 : Int) (a1_5 : Int) (a1_6 : ByteArray) (A1_7 : Option Addr) (c1_7 : Nat) (l1_7 : List (S35)) (r : Bool) (w : World) (hr0_2 : Kd.C (Kd.int .i32) w A0_2 l0_2.length l0_2) (hc0_2 : l0_2.length ≤ c0_2) (hr0_7 : Kd.C k35 w A0_7 l0_7.length l0_7) (hc0_7 : l0_7.length ≤ c0_7) (hr1_2 : Kd.C (Kd.int .i32) w A1_2 l1_2.length l1_2) (hc1_2 : l1_2.length ≤ c1_2) (hr1_7 : Kd.C k35 w A1_7 l1_7.length l1_7) (hc1_7 : l1_7.length ≤ c1_7) (h : spec_SySame.f k a0_0 a0_1 l0_2 a0_3 a0_4 a0_5 a0_6 l0_7 a1_0 a1_1 l1_2 a1_3 a1_4 a1_5 a1_6 l1_7 = some r),
    Calls Try.prog 21 #[.agg #[.int .i64 a0_0, .int .i64 a0_1, .slice A0_2 l0_2.length c0_2, .int .i64 a0_3, .int .i64 a0_4, .int .i64 a0_5, .string a0_6, .slice A0_7 l0_7.length c0_7], .agg #[.int .i64 a1_0, .int .i64 a1_1, .slice A1_2 l1_2.length c1_2, .int .i64 a1_3, .int .i64 a1_4, .int .i64 a1_5, .string a1_6, .slice A1_7 l1_7.length c1_7]] w fun e w' => e = .returned (.bool r) ∧ Below w.heap.size w w' := by
  induction k using Nat.strongRecOn with
  | _ k ih =>
  intro a0_0 a0_1 A0_2 c0_2 l0_2 a0_3 a0_4 a0_5 a0_6 A0_7 c0_7 l0_7 a1_0 a1_1 A1_2 c1_2 l1_2 a1_3 a1_4 a1_5 a1_6 A1_7 c1_7 l1_7 r w hr0_2 hc0_2 hr0_7 hc0_7 hr1_2 hc1_2 hr1_7 hc1_7 h
  cases k with
  | zero => exact absurd h (by simp [spec_SySame.f])
  | succ k =>
  simp only [spec_SySame.f] at h
  have hu35 := Try.underlying35
  have HR0_2 := Aside0.mk hr0_2
  have HC0_2 := Aside0.mk hc0_2
  clear hr0_2 hc0_2
  have HR0_7 := Aside0.mk hr0_7
  have HC0_7 := Aside0.mk hc0_7
  clear hr0_7 hc0_7
  have HR1_2 := Aside0.mk hr1_2
  have HC1_2 := Aside0.mk hc1_2
  clear hr1_2 hc1_2
  have HR1_7 := Aside0.mk hr1_7
  have HC1_7 := Aside0.mk hc1_7
  clear hr1_7 hc1_7
  have HB := Aside0.mk (Below.refl w.heap.size w)
  have H : (if a0_0 = a1_0 then (spec_SySame.j0 k ((l0_7.length : Int) != (l1_7.length : Int)) a0_0 a0_1 l0_2 a0_3 a0_4 a0_5 a0_6 l0_7 a1_0 a1_1 l1_2 a1_3 a1_4 a1_5 a1_6 l1_7) else (spec_SySame.j0 k true a0_0 a0_1 l0_2 a0_3 a0_4 a0_5 a0_6 l0_7 a1_0 a1_1 l1_2 a1_3 a1_4 a1_5 a1_6 l1_7)) = some r := h
  clear h
  have HC3 := Aside0.mk H
  clear H
  go_enter Try.func21, Try.ntmps21
  go_upto_region 1 with (first | ((with_reducible refine gate_dst (N := 2) rfl ?_); (try (refine gate_guard (by rfl) ?_; dsimp only)); refine box_event ?hg (N := 2) ?hd (cs := #[.int .i64 a0_0, .int .i64 a0_1, .slice A0_2 l0_2.length c0_2, .int .i64 a0_3, .int .i64 a0_4, .int .i64 a0_5, .string a0_6, .slice A0_7 l0_7.length c0_7]) (t := 35) ?hr ?_; (case hd => rfl); (case hg => rfl); (case hr => first | (go_simp; done) | (go_simp; rfl)); intro gb146 hg w4 hbox hb; have n0_ := Aside0.mk (below_step (by repeat (first | (with_reducible first | exact HB.out | apply below_alloc | apply pw_below_drewN | apply below_drew1) | exact HB.out)) hb); have n1_ := Aside0.mk (hbox); have n2_ := Aside0.mk ((by rw [hg]; exact (below_size (by repeat (first | (with_reducible first | exact HB.out | apply below_alloc | apply pw_below_drewN | apply below_drew1) | exact HB.out))) : w.heap.size ≤ gb146)); have n3_ := Aside0.mk ((by rw [hg]; exact (below_size (by repeat (first | (with_reducible first | exact HB.out | apply below_alloc | apply pw_below_drewN | apply below_drew1) | exact HB.out))) : w.heap.size ≤ gb146)); clear HB; have HB := n0_; have BK146 := n1_; have GW146 := n2_; have GE146 := n3_; clear n0_ n1_ n2_ n3_; clear hb hbox hg) | ((with_reducible refine gate_dst (N := 3) rfl ?_); (try (refine gate_guard (by rfl) ?_; dsimp only)); refine box_event ?hg (N := 3) ?hd (cs := #[.int .i64 a1_0, .int .i64 a1_1, .slice A1_2 l1_2.length c1_2, .int .i64 a1_3, .int .i64 a1_4, .int .i64 a1_5, .string a1_6, .slice A1_7 l1_7.length c1_7]) (t := 35) ?hr ?_; (case hd => rfl); (case hg => rfl); (case hr => first | (go_simp; done) | (go_simp; rfl)); intro gb147 hg w5 hbox hb; have n0_ := Aside0.mk (blk_below (g := gb146) (o := .cells #[.int .i64 a0_0, .int .i64 a0_1, .slice A0_2 l0_2.length c0_2, .int .i64 a0_3, .int .i64 a0_4, .int .i64 a0_5, .string a0_6, .slice A0_7 l0_7.length c0_7] 35 (0, 0)) (by (with_reducible repeat (first | refine blk_drewN ?_ _ | refine blk_drew ?_ | refine blk_alloc ?_ _)); exact BK146.out) hb); have n1_ := Aside0.mk (below_step (by repeat (first | (with_reducible first | exact HB.out | apply below_alloc | apply pw_below_drewN | apply below_drew1 | refine below_set ?_ GE146.out) | exact HB.out)) hb); have n2_ := Aside0.mk (hbox); have n3_ := Aside0.mk ((by rw [hg]; exact (below_size (by repeat (first | (with_reducible first | exact HB.out | apply below_alloc | apply pw_below_drewN | apply below_drew1 | refine below_set ?_ GE146.out) | exact HB.out))) : w.heap.size ≤ gb147)); have n4_ := Aside0.mk ((by rw [hg]; exact (below_size (by repeat (first | (with_reducible first | exact HB.out | apply below_alloc | apply pw_below_drewN | apply below_drew1 | refine below_set ?_ GE146.out) | exact HB.out))) : w.heap.size ≤ gb147)); have n5_ := Aside0.mk ((by rw [hg]; exact Nat.ne_of_lt (blk_lt (g := gb146) (o := .cells #[.int .i64 a0_0, .int .i64 a0_1, .slice A0_2 l0_2.length c0_2, .int .i64 a0_3, .int .i64 a0_4, .int .i64 a0_5, .string a0_6, .slice A0_7 l0_7.length c0_7] 35 (0, 0)) (by (with_reducible repeat (first | refine blk_drewN ?_ _ | refine blk_drew ?_ | refine blk_alloc ?_ _)); exact BK146.out)) : gb146 ≠ gb147)); have n6_ := Aside0.mk ((by rw [hg]; exact Nat.ne_of_gt (blk_lt (g := gb146) (o := .cells #[.int .i64 a0_0, .int .i64 a0_1, .slice A0_2 l0_2.length c0_2, .int .i64 a0_3, .int .i64 a0_4, .int .i64 a0_5, .string a0_6, .slice A0_7 l0_7.length c0_7] 35 (0, 0)) (by (with_reducible repeat (first | refine blk_drewN ?_ _ | refine blk_drew ?_ | refine blk_alloc ?_ _)); exact BK146.out)) : gb147 ≠ gb146)); clear BK146; clear HB; have BK146 := n0_; have HB := n1_; have BK147 := n2_; have GW147 := n3_; have GE147 := n4_; have NB146_147 := n5_; have NB147_146 := n6_; clear n0_ n1_ n2_ n3_ n4_ n5_ n6_; clear hb hbox hg))
  (try simp only [Act.put, List.setIfInBounds_toArray, List.set_cons_zero, List.set_cons_succ])
  go_cut [20] (fun v20 wc => ∃ (kq : Nat) (x20_2 : Bool), v20 = .bool x20_2 ∧ Aside0 (spec_SySame.j0 kq x20_2 a0_0 a0_1 l0_2 a0_3 a0_4 a0_5 a0_6 l0_7 a1_0 a1_1 l1_2 a1_3 a1_4 a1_5 a1_6 l1_7 = some r) ∧ Aside0 (kq ≤ k) ∧ Aside0 (wc.heap[gb146]? = some (.cells #[.int .i64 a0_0, .int .i64 a0_1, (.slice A0_2 l0_2.length c0_2), .int .i64 a0_3, .int .i64 a0_4, .int .i64 a0_5, .string a0_6, (.slice A0_7 l0_7.length c0_7)] 35 (0, 0))) ∧ Aside0 (wc.heap[gb147]? = some (.cells #[.int .i64 a1_0, .int .i64 a1_1, (.slice A1_2 l1_2.length c1_2), .int .i64 a1_3, .int .i64 a1_4, .int .i64 a1_5, .string a1_6, (.slice A1_7 l1_7.length c1_7)] 35 (0, 0))) ∧ Aside0 (Below w.heap.size w wc))
  case first =>
    have H := HC3.out
    clear HC3
    by_cases c6 : a0_0 = a1_0
    · rw [if_pos c6] at H
      have c6b0 : (a0_0 == a1_0) = true := beq_iff_eq.mpr c6
      have c6b1 : (a0_0 != a1_0) = false := bne_eq_false_iff_eq.mpr c6
      clear c6
      (first | rw [c6b0] | (simp only [i64_w, i32_w]; rw [c6b0]) | skip)
      have H' := Aside0.mk H
      clear H
      have hnb7 := NB146_147.out
      have hnc7 := NB147_146.out
      have hcz8_0 : w5.cell? ⟨gb146, 0, none⟩ = some (.int .i64 a0_0) := (blk_cell BK146.out 0).trans rfl
      have hcz8_1 : w5.cell? ⟨gb146, 1, none⟩ = some (.int .i64 a0_1) := (blk_cell BK146.out 1).trans rfl
      have hcz8_2 : w5.cell? ⟨gb146, 2, none⟩ = some (.slice A0_2 l0_2.length c0_2) := (blk_cell BK146.out 2).trans rfl
      have hcz8_3 : w5.cell? ⟨gb146, 3, none⟩ = some (.int .i64 a0_3) := (blk_cell BK146.out 3).trans rfl
      have hcz8_4 : w5.cell? ⟨gb146, 4, none⟩ = some (.int .i64 a0_4) := (blk_cell BK146.out 4).trans rfl
      have hcz8_5 : w5.cell? ⟨gb146, 5, none⟩ = some (.int .i64 a0_5) := (blk_cell BK146.out 5).trans rfl
      have hcz8_6 : w5.cell? ⟨gb146, 6, none⟩ = some (.string a0_6) := (blk_cell BK146.out 6).trans rfl
      have hcz8_7 : w5.cell? ⟨gb146, 7, none⟩ = some (.slice A0_7 l0_7.length c0_7) := (blk_cell BK146.out 7).trans rfl
      have hfz8_0 := blk_frozen BK146.out 0
      have hfz8_1 := blk_frozen BK146.out 1
      have hfz8_2 := blk_frozen BK146.out 2
      have hfz8_3 := blk_frozen BK146.out 3
      have hfz8_4 := blk_frozen BK146.out 4
      have hfz8_5 := blk_frozen BK146.out 5
      have hfz8_6 := blk_frozen BK146.out 6
      have hfz8_7 := blk_frozen BK146.out 7
      have hcz9_0 : w5.cell? ⟨gb147, 0, none⟩ = some (.int .i64 a1_0) := (blk_cell BK147.out 0).trans rfl
      have hcz9_1 : w5.cell? ⟨gb147, 1, none⟩ = some (.int .i64 a1_1) := (blk_cell BK147.out 1).trans rfl
      have hcz9_2 : w5.cell? ⟨gb147, 2, none⟩ = some (.slice A1_2 l1_2.length c1_2) := (blk_cell BK147.out 2).trans rfl
      have hcz9_3 : w5.cell? ⟨gb147, 3, none⟩ = some (.int .i64 a1_3) := (blk_cell BK147.out 3).trans rfl
      have hcz9_4 : w5.cell? ⟨gb147, 4, none⟩ = some (.int .i64 a1_4) := (blk_cell BK147.out 4).trans rfl
      have hcz9_5 : w5.cell? ⟨gb147, 5, none⟩ = some (.int .i64 a1_5) := (blk_cell BK147.out 5).trans rfl
      have hcz9_6 : w5.cell? ⟨gb147, 6, none⟩ = some (.string a1_6) := (blk_cell BK147.out 6).trans rfl
      have hcz9_7 : w5.cell? ⟨gb147, 7, none⟩ = some (.slice A1_7 l1_7.length c1_7) := (blk_cell BK147.out 7).trans rfl
      have hfz9_0 := blk_frozen BK147.out 0
      have hfz9_1 := blk_frozen BK147.out 1
      have hfz9_2 := blk_frozen BK147.out 2
      have hfz9_3 := blk_frozen BK147.out 3
      have hfz9_4 := blk_frozen BK147.out 4
      have hfz9_5 := blk_frozen BK147.out 5
      have hfz9_6 := blk_frozen BK147.out 6
      have hfz9_7 := blk_frozen BK147.out 7
      go_wp2
      go_meet
      case rel => exact ⟨_, (((l0_7.length : Int) != (l1_7.length : Int))), (by first | rfl | (simp; done) | (simp [*]; done)), H', ⟨by first | omega | exact Nat.le_refl _⟩, ⟨by (with_reducible repeat (first | refine blk_drewN ?_ _ | refine blk_drew ?_ | refine blk_alloc ?_ _)); exact BK146.out⟩, ⟨by (with_reducible repeat (first | refine blk_drewN ?_ _ | refine blk_drew ?_ | refine blk_alloc ?_ _)); exact BK147.out⟩, ⟨by repeat (first | (with_reducible first | exact HB.out | apply below_alloc | apply pw_below_drewN | apply below_drew1 | refine below_set ?_ GE146.out | refine below_set ?_ GE147.out) | exact HB.out)⟩⟩
    · rw [if_neg c6] at H
      have c6b0 : (a0_0 == a1_0) = false := beq_eq_false_iff_ne.mpr c6
      have c6b1 : (a0_0 != a1_0) = true := bne_iff_ne.mpr c6
      (first | rw [c6b0] | (simp only [i64_w, i32_w]; rw [c6b0]) | skip)
      have H' := Aside0.mk H
      clear H
      have hnb10 := NB146_147.out
      have hnc10 := NB147_146.out
      have hcz11_0 : w5.cell? ⟨gb146, 0, none⟩ = some (.int .i64 a0_0) := (blk_cell BK146.out 0).trans rfl
      have hcz11_1 : w5.cell? ⟨gb146, 1, none⟩ = some (.int .i64 a0_1) := (blk_cell BK146.out 1).trans rfl
      have hcz11_2 : w5.cell? ⟨gb146, 2, none⟩ = some (.slice A0_2 l0_2.length c0_2) := (blk_cell BK146.out 2).trans rfl
      have hcz11_3 : w5.cell? ⟨gb146, 3, none⟩ = some (.int .i64 a0_3) := (blk_cell BK146.out 3).trans rfl
      have hcz11_4 : w5.cell? ⟨gb146, 4, none⟩ = some (.int .i64 a0_4) := (blk_cell BK146.out 4).trans rfl
      have hcz11_5 : w5.cell? ⟨gb146, 5, none⟩ = some (.int .i64 a0_5) := (blk_cell BK146.out 5).trans rfl
      have hcz11_6 : w5.cell? ⟨gb146, 6, none⟩ = some (.string a0_6) := (blk_cell BK146.out 6).trans rfl
      have hcz11_7 : w5.cell? ⟨gb146, 7, none⟩ = some (.slice A0_7 l0_7.length c0_7) := (blk_cell BK146.out 7).trans rfl
      have hfz11_0 := blk_frozen BK146.out 0
      have hfz11_1 := blk_frozen BK146.out 1
      have hfz11_2 := blk_frozen BK146.out 2
      have hfz11_3 := blk_frozen BK146.out 3
      have hfz11_4 := blk_frozen BK146.out 4
      have hfz11_5 := blk_frozen BK146.out 5
      have hfz11_6 := blk_frozen BK146.out 6
      have hfz11_7 := blk_frozen BK146.out 7
      have hcz12_0 : w5.cell? ⟨gb147, 0, none⟩ = some (.int .i64 a1_0) := (blk_cell BK147.out 0).trans rfl
      have hcz12_1 : w5.cell? ⟨gb147, 1, none⟩ = some (.int .i64 a1_1) := (blk_cell BK147.out 1).trans rfl
      have hcz12_2 : w5.cell? ⟨gb147, 2, none⟩ = some (.slice A1_2 l1_2.length c1_2) := (blk_cell BK147.out 2).trans rfl
      have hcz12_3 : w5.cell? ⟨gb147, 3, none⟩ = some (.int .i64 a1_3) := (blk_cell BK147.out 3).trans rfl
      have hcz12_4 : w5.cell? ⟨gb147, 4, none⟩ = some (.int .i64 a1_4) := (blk_cell BK147.out 4).trans rfl
      have hcz12_5 : w5.cell? ⟨gb147, 5, none⟩ = some (.int .i64 a1_5) := (blk_cell BK147.out 5).trans rfl
      have hcz12_6 : w5.cell? ⟨gb147, 6, none⟩ = some (.string a1_6) := (blk_cell BK147.out 6).trans rfl
      have hcz12_7 : w5.cell? ⟨gb147, 7, none⟩ = some (.slice A1_7 l1_7.length c1_7) := (blk_cell BK147.out 7).trans rfl
      have hfz12_0 := blk_frozen BK147.out 0
      have hfz12_1 := blk_frozen BK147.out 1
      have hfz12_2 := blk_frozen BK147.out 2
      have hfz12_3 := blk_frozen BK147.out 3
      have hfz12_4 := blk_frozen BK147.out 4
      have hfz12_5 := blk_frozen BK147.out 5
      have hfz12_6 := blk_frozen BK147.out 6
      have hfz12_7 := blk_frozen BK147.out 7
      go_wp2
      go_meet
      case rel => exact ⟨_, (true), (by first | rfl | (simp; done) | (simp [*]; done)), H', ⟨by first | omega | exact Nat.le_refl _⟩, ⟨by (with_reducible repeat (first | refine blk_drewN ?_ _ | refine blk_drew ?_ | refine blk_alloc ?_ _)); exact BK146.out⟩, ⟨by (with_reducible repeat (first | refine blk_drewN ?_ _ | refine blk_drew ?_ | refine blk_alloc ?_ _)); exact BK147.out⟩, ⟨by repeat (first | (with_reducible first | exact HB.out | apply below_alloc | apply pw_below_drewN | apply below_drew1 | refine below_set ?_ GE146.out | refine below_set ?_ GE147.out) | exact HB.out)⟩⟩
  case rest =>
    clear HC3
    try clear c1
    try clear c2
    try clear p2
    try clear c6
    try clear c6b0
    try clear c6b1
    try clear c7
    try clear c10
    try clear hcz11_0
    try clear hcz11_1
    try clear hcz11_2
    try clear hcz11_3
    try clear hcz11_4
    try clear hcz11_5
    try clear hcz11_6
    try clear hcz11_7
    try clear hcz12_0
    try clear hcz12_1
    try clear hcz12_2
    try clear hcz12_3
    try clear hcz12_4
    try clear hcz12_5
    try clear hcz12_6
    try clear hcz12_7
    try clear hcz8_0
    try clear hcz8_1
    try clear hcz8_2
    try clear hcz8_3
    try clear hcz8_4
    try clear hcz8_5
    try clear hcz8_6
    try clear hcz8_7
    try clear hcz9_0
    try clear hcz9_1
    try clear hcz9_2
    try clear hcz9_3
    try clear hcz9_4
    try clear hcz9_5
    try clear hcz9_6
    try clear hcz9_7
    try clear hfz11_0
    try clear hfz11_1
    try clear hfz11_2
    try clear hfz11_3
    try clear hfz11_4
    try clear hfz11_5
    try clear hfz11_6
    try clear hfz11_7
    try clear hfz12_0
    try clear hfz12_1
    try clear hfz12_2
    try clear hfz12_3
    try clear hfz12_4
    try clear hfz12_5
    try clear hfz12_6
    try clear hfz12_7
    try clear hfz8_0
    try clear hfz8_1
    try clear hfz8_2
    try clear hfz8_3
    try clear hfz8_4
    try clear hfz8_5
    try clear hfz8_6
    try clear hfz8_7
    try clear hfz9_0
    try clear hfz9_1
    try clear hfz9_2
    try clear hfz9_3
    try clear hfz9_4
    try clear hfz9_5
    try clear hfz9_6
    try clear hfz9_7
    obtain ⟨kq, x20_2, rfl, HA, HJ2, BK146, BK147, HB⟩ := hcut
    cases kq with
    | zero => exact absurd HA.out (by simp [spec_SySame.j0])
    | succ kj2 =>
      have H := HA.out
      clear HA
      simp only [spec_SySame.j0] at H
      by_cases c13 : x20_2 = true
      · subst c13
        have H1 : (some false) = some r := by rw [if_pos rfl] at H; exact H
        clear H
        have H := H1
        clear H1
        obtain rfl := Option.some.inj H
        go_wp2
        go_ret
        exact ⟨by first | rfl | (simp [errW_none, errW_some] <;> rfl) | (simp [*, errW_none, errW_some] <;> rfl), by repeat (first | (with_reducible first | exact HB.out | apply below_alloc | apply pw_below_drewN | apply below_drew1 | refine below_set ?_ GE146.out | refine below_set ?_ GE147.out) | exact HB.out)⟩
      · replace c13 := Bool.eq_false_iff.mpr c13
        subst c13
        have H1 : (if a0_0 = 10 then ((spec_syBits.f a0_0 a0_1 l0_2 a0_3 a0_4 a0_5 a0_6 l0_7 a1_0 a1_1 l1_2 a1_3 a1_4 a1_5 a1_6 l1_7 256).bind fun t148 => (spec_SySame.j3 kj2 t148 a0_0 a0_1 l0_2 a0_3 a0_4 a0_5 a0_6 l0_7 a1_0 a1_1 l1_2 a1_3 a1_4 a1_5 a1_6 l1_7)) else (if a0_0 = 3 then (spec_SySame.j1 kj2 true a0_0 (a0_0 == 3) a0_0 a0_1 l0_2 a0_3 a0_4 a0_5 a0_6 l0_7 a1_0 a1_1 l1_2 a1_3 a1_4 a1_5 a1_6 l1_7) else (spec_SySame.j1 kj2 true a0_0 (a0_0 == 4) a0_0 a0_1 l0_2 a0_3 a0_4 a0_5 a0_6 l0_7 a1_0 a1_1 l1_2 a1_3 a1_4 a1_5 a1_6 l1_7))) = some r := by rw [if_neg (show ¬ (false = true) by decide)] at H; exact H
        clear H
        have H := H1
        clear H1
        have HC14 := Aside0.mk H
        clear H
        have hnb15 := NB146_147.out
        have hnc15 := NB147_146.out
        have hcz16_0 : wc.cell? ⟨gb146, 0, none⟩ = some (.int .i64 a0_0) := (blk_cell BK146.out 0).trans rfl
        have hcz16_1 : wc.cell? ⟨gb146, 1, none⟩ = some (.int .i64 a0_1) := (blk_cell BK146.out 1).trans rfl
        have hcz16_2 : wc.cell? ⟨gb146, 2, none⟩ = some (.slice A0_2 l0_2.length c0_2) := (blk_cell BK146.out 2).trans rfl
        have hcz16_3 : wc.cell? ⟨gb146, 3, none⟩ = some (.int .i64 a0_3) := (blk_cell BK146.out 3).trans rfl
        have hcz16_4 : wc.cell? ⟨gb146, 4, none⟩ = some (.int .i64 a0_4) := (blk_cell BK146.out 4).trans rfl
        have hcz16_5 : wc.cell? ⟨gb146, 5, none⟩ = some (.int .i64 a0_5) := (blk_cell BK146.out 5).trans rfl
        have hcz16_6 : wc.cell? ⟨gb146, 6, none⟩ = some (.string a0_6) := (blk_cell BK146.out 6).trans rfl
        have hcz16_7 : wc.cell? ⟨gb146, 7, none⟩ = some (.slice A0_7 l0_7.length c0_7) := (blk_cell BK146.out 7).trans rfl
        have hfz16_0 := blk_frozen BK146.out 0
        have hfz16_1 := blk_frozen BK146.out 1
        have hfz16_2 := blk_frozen BK146.out 2
        have hfz16_3 := blk_frozen BK146.out 3
        have hfz16_4 := blk_frozen BK146.out 4
        have hfz16_5 := blk_frozen BK146.out 5
        have hfz16_6 := blk_frozen BK146.out 6
        have hfz16_7 := blk_frozen BK146.out 7
        go_upto_block 0 with (fail)
        go_cut [5] (fun v5 wc => ∃ (kq : Nat) (x5_13 : Bool), v5 = .bool x5_13 ∧ Aside0 (spec_SySame.j3 kq x5_13 a0_0 a0_1 l0_2 a0_3 a0_4 a0_5 a0_6 l0_7 a1_0 a1_1 l1_2 a1_3 a1_4 a1_5 a1_6 l1_7 = some r) ∧ Aside0 (kq ≤ kj2) ∧ Aside0 (wc.heap[gb146]? = some (.cells #[.int .i64 a0_0, .int .i64 a0_1, (.slice A0_2 l0_2.length c0_2), .int .i64 a0_3, .int .i64 a0_4, .int .i64 a0_5, .string a0_6, (.slice A0_7 l0_7.length c0_7)] 35 (0, 0))) ∧ Aside0 (wc.heap[gb147]? = some (.cells #[.int .i64 a1_0, .int .i64 a1_1, (.slice A1_2 l1_2.length c1_2), .int .i64 a1_3, .int .i64 a1_4, .int .i64 a1_5, .string a1_6, (.slice A1_7 l1_7.length c1_7)] 35 (0, 0))) ∧ Aside0 (Below w.heap.size w wc))
        case first =>
          have H := HC14.out
          clear HC14
          by_cases c17 : a0_0 = 10
          · rw [if_pos c17] at H
            have c17b0 : (a0_0 == 10) = true := beq_iff_eq.mpr c17
            have c17b1 : (a0_0 != 10) = false := bne_eq_false_iff_eq.mpr c17
            clear c17
            (first | rw [c17b0] | (simp only [i64_w, i32_w]; rw [c17b0]) | skip)
            replace H := Option.bind_eq_some_iff.mp H
            obtain ⟨t148, A180, H⟩ := H
            replace H : (spec_SySame.j3 kj2 t148 a0_0 a0_1 l0_2 a0_3 a0_4 a0_5 a0_6 l0_7 a1_0 a1_1 l1_2 a1_3 a1_4 a1_5 a1_6 l1_7) = some r := H
            have A18 := Aside0.mk A180
            clear A180
            have H' := Aside0.mk H
            clear H
            have hnb19 := NB146_147.out
            have hnc19 := NB147_146.out
            have hcz20_0 : wc.cell? ⟨gb146, 0, none⟩ = some (.int .i64 a0_0) := (blk_cell BK146.out 0).trans rfl
            have hcz20_1 : wc.cell? ⟨gb146, 1, none⟩ = some (.int .i64 a0_1) := (blk_cell BK146.out 1).trans rfl
            have hcz20_2 : wc.cell? ⟨gb146, 2, none⟩ = some (.slice A0_2 l0_2.length c0_2) := (blk_cell BK146.out 2).trans rfl
            have hcz20_3 : wc.cell? ⟨gb146, 3, none⟩ = some (.int .i64 a0_3) := (blk_cell BK146.out 3).trans rfl
            have hcz20_4 : wc.cell? ⟨gb146, 4, none⟩ = some (.int .i64 a0_4) := (blk_cell BK146.out 4).trans rfl
            have hcz20_5 : wc.cell? ⟨gb146, 5, none⟩ = some (.int .i64 a0_5) := (blk_cell BK146.out 5).trans rfl
            have hcz20_6 : wc.cell? ⟨gb146, 6, none⟩ = some (.string a0_6) := (blk_cell BK146.out 6).trans rfl
            have hcz20_7 : wc.cell? ⟨gb146, 7, none⟩ = some (.slice A0_7 l0_7.length c0_7) := (blk_cell BK146.out 7).trans rfl
            have hfz20_0 := blk_frozen BK146.out 0
            have hfz20_1 := blk_frozen BK146.out 1
            have hfz20_2 := blk_frozen BK146.out 2
            have hfz20_3 := blk_frozen BK146.out 3
            have hfz20_4 := blk_frozen BK146.out 4
            have hfz20_5 := blk_frozen BK146.out 5
            have hfz20_6 := blk_frozen BK146.out 6
            have hfz20_7 := blk_frozen BK146.out 7
            have hcz21_0 : wc.cell? ⟨gb147, 0, none⟩ = some (.int .i64 a1_0) := (blk_cell BK147.out 0).trans rfl
            have hcz21_1 : wc.cell? ⟨gb147, 1, none⟩ = some (.int .i64 a1_1) := (blk_cell BK147.out 1).trans rfl
            have hcz21_2 : wc.cell? ⟨gb147, 2, none⟩ = some (.slice A1_2 l1_2.length c1_2) := (blk_cell BK147.out 2).trans rfl
            have hcz21_3 : wc.cell? ⟨gb147, 3, none⟩ = some (.int .i64 a1_3) := (blk_cell BK147.out 3).trans rfl
            have hcz21_4 : wc.cell? ⟨gb147, 4, none⟩ = some (.int .i64 a1_4) := (blk_cell BK147.out 4).trans rfl
            have hcz21_5 : wc.cell? ⟨gb147, 5, none⟩ = some (.int .i64 a1_5) := (blk_cell BK147.out 5).trans rfl
            have hcz21_6 : wc.cell? ⟨gb147, 6, none⟩ = some (.string a1_6) := (blk_cell BK147.out 6).trans rfl
            have hcz21_7 : wc.cell? ⟨gb147, 7, none⟩ = some (.slice A1_7 l1_7.length c1_7) := (blk_cell BK147.out 7).trans rfl
            have hfz21_0 := blk_frozen BK147.out 0
            have hfz21_1 := blk_frozen BK147.out 1
            have hfz21_2 := blk_frozen BK147.out 2
            have hfz21_3 := blk_frozen BK147.out 3
            have hfz21_4 := blk_frozen BK147.out 4
            have hfz21_5 := blk_frozen BK147.out 5
            have hfz21_6 := blk_frozen BK147.out 6
            have hfz21_7 := blk_frozen BK147.out 7
            go_wp2_with (first | ((with_reducible refine gate_callee (f := 33) rfl ?_); refine goesL_ (some 27) rfl rfl Try.func33 (by kernel_rfl) rfl #[.agg #[.int .i64 a0_0, .int .i64 a0_1, .slice A0_2 l0_2.length c0_2, .int .i64 a0_3, .int .i64 a0_4, .int .i64 a0_5, .string a0_6, .slice A0_7 l0_7.length c0_7], .agg #[.int .i64 a1_0, .int .i64 a1_1, .slice A1_2 l1_2.length c1_2, .int .i64 a1_3, .int .i64 a1_4, .int .i64 a1_5, .string a1_6, .slice A1_7 l1_7.length c1_7], .int .i64 256] rfl (by (try simp only [List.map_toArray, List.map_cons, List.map_nil]); first | done | rfl | (simp only [List.length_drop, List.length_take]; rfl)) ?_; (with_reducible refine (spec_syBits.calls a0_0 a0_1 _ _ l0_2 a0_3 a0_4 a0_5 a0_6 _ _ l0_7 a1_0 a1_1 _ _ l1_2 a1_3 a1_4 a1_5 a1_6 _ _ l1_7 256 t148 _ ?side1 ?side2 ?side3 ?side4 ?side5 ?side6 ?side7 ?side8 A18.out).mono ?_); (case side1 => repeat (first | exact (Kd.C_below HR0_2.out HB.out) | (with_reducible refine Kd.C_alloc ?_ _) | (with_reducible refine Kd.C_drewN ?_ _) | (with_reducible refine Kd.C_drew ?_))); (case side2 => exact HC0_2.out); (case side3 => repeat (first | exact (Kd.C_below HR0_7.out HB.out) | (with_reducible refine Kd.C_alloc ?_ _) | (with_reducible refine Kd.C_drewN ?_ _) | (with_reducible refine Kd.C_drew ?_))); (case side4 => exact HC0_7.out); (case side5 => repeat (first | exact (Kd.C_below HR1_2.out HB.out) | (with_reducible refine Kd.C_alloc ?_ _) | (with_reducible refine Kd.C_drewN ?_ _) | (with_reducible refine Kd.C_drew ?_))); (case side6 => exact HC1_2.out); (case side7 => repeat (first | exact (Kd.C_below HR1_7.out HB.out) | (with_reducible refine Kd.C_alloc ?_ _) | (with_reducible refine Kd.C_drewN ?_ _) | (with_reducible refine Kd.C_drew ?_))); (case side8 => exact HC1_7.out); rintro e w22 ⟨rfl, hb⟩; refine ⟨_, rfl, ?_⟩; have n0_ := Aside0.mk (blk_below (g := gb146) (o := .cells #[.int .i64 a0_0, .int .i64 a0_1, .slice A0_2 l0_2.length c0_2, .int .i64 a0_3, .int .i64 a0_4, .int .i64 a0_5, .string a0_6, .slice A0_7 l0_7.length c0_7] 35 (0, 0)) (by (with_reducible repeat (first | refine blk_drewN ?_ _ | refine blk_drew ?_ | refine blk_alloc ?_ _)); exact BK146.out) hb); have n1_ := Aside0.mk (blk_below (g := gb147) (o := .cells #[.int .i64 a1_0, .int .i64 a1_1, .slice A1_2 l1_2.length c1_2, .int .i64 a1_3, .int .i64 a1_4, .int .i64 a1_5, .string a1_6, .slice A1_7 l1_7.length c1_7] 35 (0, 0)) (by (with_reducible repeat (first | refine blk_drewN ?_ _ | refine blk_drew ?_ | refine blk_alloc ?_ _)); exact BK147.out) hb); have n2_ := Aside0.mk (below_step (by repeat (first | (with_reducible first | exact HB.out | apply below_alloc | apply pw_below_drewN | apply below_drew1 | refine below_set ?_ GE146.out | refine below_set ?_ GE147.out) | exact HB.out)) hb); clear BK146; clear BK147; clear HB; have BK146 := n0_; have BK147 := n1_; have HB := n2_; clear n0_ n1_ n2_; (try clear hb); (try clear hb2); (try clear hk); (try clear hi)))
            go_meet
            case rel => exact ⟨_, (t148), (by first | rfl | (simp; done) | (simp [*]; done)), H', ⟨by have := HJ2.out; first | omega | exact Nat.le_refl _⟩, ⟨by (with_reducible repeat (first | refine blk_drewN ?_ _ | refine blk_drew ?_ | refine blk_alloc ?_ _)); exact BK146.out⟩, ⟨by (with_reducible repeat (first | refine blk_drewN ?_ _ | refine blk_drew ?_ | refine blk_alloc ?_ _)); exact BK147.out⟩, ⟨by repeat (first | (with_reducible first | exact HB.out | apply below_alloc | apply pw_below_drewN | apply below_drew1 | refine below_set ?_ GE146.out | refine below_set ?_ GE147.out) | exact HB.out)⟩⟩
          · rw [if_neg c17] at H
            have c17b0 : (a0_0 == 10) = false := beq_eq_false_iff_ne.mpr c17
            have c17b1 : (a0_0 != 10) = true := bne_iff_ne.mpr c17
            (first | rw [c17b0] | (simp only [i64_w, i32_w]; rw [c17b0]) | skip)
            have HC23 := Aside0.mk H
            clear H
            go_upto_if 28 with (fail)
            go_cut [28] (fun v28 wc => ∃ (kq : Nat) (x28_22 : Bool), v28 = .bool x28_22 ∧ Aside0 (spec_SySame.j1 kq true a0_0 x28_22 a0_0 a0_1 l0_2 a0_3 a0_4 a0_5 a0_6 l0_7 a1_0 a1_1 l1_2 a1_3 a1_4 a1_5 a1_6 l1_7 = some r) ∧ Aside0 (kq ≤ kj2) ∧ Aside0 (wc.heap[gb146]? = some (.cells #[.int .i64 a0_0, .int .i64 a0_1, (.slice A0_2 l0_2.length c0_2), .int .i64 a0_3, .int .i64 a0_4, .int .i64 a0_5, .string a0_6, (.slice A0_7 l0_7.length c0_7)] 35 (0, 0))) ∧ Aside0 (wc.heap[gb147]? = some (.cells #[.int .i64 a1_0, .int .i64 a1_1, (.slice A1_2 l1_2.length c1_2), .int .i64 a1_3, .int .i64 a1_4, .int .i64 a1_5, .string a1_6, (.slice A1_7 l1_7.length c1_7)] 35 (0, 0))) ∧ Aside0 (Below w.heap.size w wc))
            case first =>
              have H := HC23.out
              clear HC23
              by_cases c24 : a0_0 = 3
              · rw [if_pos c24] at H
                have c24b0 : (a0_0 == 3) = true := beq_iff_eq.mpr c24
                have c24b1 : (a0_0 != 3) = false := bne_eq_false_iff_eq.mpr c24
                clear c24
                (first | rw [c24b0] | (simp only [i64_w, i32_w]; rw [c24b0]) | skip)
                have H' := Aside0.mk H
                clear H
                go_wp2
                go_meet
                case rel => exact ⟨_, ((a0_0 == 3)), (by first | rfl | (simp; done) | (simp [*]; done)), H', ⟨by have := HJ2.out; first | omega | exact Nat.le_refl _⟩, ⟨by (with_reducible repeat (first | refine blk_drewN ?_ _ | refine blk_drew ?_ | refine blk_alloc ?_ _)); exact BK146.out⟩, ⟨by (with_reducible repeat (first | refine blk_drewN ?_ _ | refine blk_drew ?_ | refine blk_alloc ?_ _)); exact BK147.out⟩, ⟨by repeat (first | (with_reducible first | exact HB.out | apply below_alloc | apply pw_below_drewN | apply below_drew1 | refine below_set ?_ GE146.out | refine below_set ?_ GE147.out) | exact HB.out)⟩⟩
              · rw [if_neg c24] at H
                have c24b0 : (a0_0 == 3) = false := beq_eq_false_iff_ne.mpr c24
                have c24b1 : (a0_0 != 3) = true := bne_iff_ne.mpr c24
                (first | rw [c24b0] | (simp only [i64_w, i32_w]; rw [c24b0]) | skip)
                have H' := Aside0.mk H
                clear H
                go_wp2
                go_meet
                case rel => exact ⟨_, ((a0_0 == 4)), (by first | rfl | (simp; done) | (simp [*]; done)), H', ⟨by have := HJ2.out; first | omega | exact Nat.le_refl _⟩, ⟨by (with_reducible repeat (first | refine blk_drewN ?_ _ | refine blk_drew ?_ | refine blk_alloc ?_ _)); exact BK146.out⟩, ⟨by (with_reducible repeat (first | refine blk_drewN ?_ _ | refine blk_drew ?_ | refine blk_alloc ?_ _)); exact BK147.out⟩, ⟨by repeat (first | (with_reducible first | exact HB.out | apply below_alloc | apply pw_below_drewN | apply below_drew1 | refine below_set ?_ GE146.out | refine below_set ?_ GE147.out) | exact HB.out)⟩⟩
            case rest =>
              clear HC23
              try clear c1
              try clear c2
              try clear p2
              try clear c3
              try clear c6
              try clear c6b0
              try clear c6b1
              try clear c7
              try clear c10
              try clear c13
              try clear c15
              try clear c17
              try clear c17b0
              try clear c17b1
              try clear c19
              try clear c21
              try clear c24
              try clear c24b0
              try clear c24b1
              try clear hcz11_0
              try clear hcz11_1
              try clear hcz11_2
              try clear hcz11_3
              try clear hcz11_4
              try clear hcz11_5
              try clear hcz11_6
              try clear hcz11_7
              try clear hcz12_0
              try clear hcz12_1
              try clear hcz12_2
              try clear hcz12_3
              try clear hcz12_4
              try clear hcz12_5
              try clear hcz12_6
              try clear hcz12_7
              try clear hcz16_0
              try clear hcz16_1
              try clear hcz16_2
              try clear hcz16_3
              try clear hcz16_4
              try clear hcz16_5
              try clear hcz16_6
              try clear hcz16_7
              try clear hcz20_0
              try clear hcz20_1
              try clear hcz20_2
              try clear hcz20_3
              try clear hcz20_4
              try clear hcz20_5
              try clear hcz20_6
              try clear hcz20_7
              try clear hcz21_0
              try clear hcz21_1
              try clear hcz21_2
              try clear hcz21_3
              try clear hcz21_4
              try clear hcz21_5
              try clear hcz21_6
              try clear hcz21_7
              try clear hcz8_0
              try clear hcz8_1
              try clear hcz8_2
              try clear hcz8_3
              try clear hcz8_4
              try clear hcz8_5
              try clear hcz8_6
              try clear hcz8_7
              try clear hcz9_0
              try clear hcz9_1
              try clear hcz9_2
              try clear hcz9_3
              try clear hcz9_4
              try clear hcz9_5
              try clear hcz9_6
              try clear hcz9_7
              try clear hfz11_0
              try clear hfz11_1
              try clear hfz11_2
              try clear hfz11_3
              try clear hfz11_4
              try clear hfz11_5
              try clear hfz11_6
              try clear hfz11_7
              try clear hfz12_0
              try clear hfz12_1
              try clear hfz12_2
              try clear hfz12_3
              try clear hfz12_4
              try clear hfz12_5
              try clear hfz12_6
              try clear hfz12_7
              try clear hfz16_0
              try clear hfz16_1
              try clear hfz16_2
              try clear hfz16_3
              try clear hfz16_4
              try clear hfz16_5
              try clear hfz16_6
              try clear hfz16_7
              try clear hfz20_0
              try clear hfz20_1
              try clear hfz20_2
              try clear hfz20_3
              try clear hfz20_4
              try clear hfz20_5
              try clear hfz20_6
              try clear hfz20_7
              try clear hfz21_0
              try clear hfz21_1
              try clear hfz21_2
              try clear hfz21_3
              try clear hfz21_4
              try clear hfz21_5
              try clear hfz21_6
              try clear hfz21_7
              try clear hfz8_0
              try clear hfz8_1
              try clear hfz8_2
              try clear hfz8_3
              try clear hfz8_4
              try clear hfz8_5
              try clear hfz8_6
              try clear hfz8_7
              try clear hfz9_0
              try clear hfz9_1
              try clear hfz9_2
              try clear hfz9_3
              try clear hfz9_4
              try clear hfz9_5
              try clear hfz9_6
              try clear hfz9_7
              try clear p2
              obtain ⟨kq, x28_22, rfl, HA, HJ22, BK146, BK147, HB⟩ := hcut
              cases kq with
              | zero => exact absurd HA.out (by simp [spec_SySame.j1])
              | succ kj22 =>
                have H := HA.out
                clear HA
                simp only [spec_SySame.j1] at H
                by_cases c25 : x28_22 = true
                · subst c25
                  have H1 : ((spec_syBits.f a0_0 a0_1 l0_2 a0_3 a0_4 a0_5 a0_6 l0_7 a1_0 a1_1 l1_2 a1_3 a1_4 a1_5 a1_6 l1_7 1).bind fun t149 => (if t149 = true then ((spec_syRunes.f kj22 l0_2 l1_2).bind fun t150 => (spec_SySame.j3 kj22 t150 a0_0 a0_1 l0_2 a0_3 a0_4 a0_5 a0_6 l0_7 a1_0 a1_1 l1_2 a1_3 a1_4 a1_5 a1_6 l1_7)) else (spec_SySame.j3 kj22 false a0_0 a0_1 l0_2 a0_3 a0_4 a0_5 a0_6 l0_7 a1_0 a1_1 l1_2 a1_3 a1_4 a1_5 a1_6 l1_7))) = some r := by rw [if_pos rfl] at H; exact H
                  clear H
                  have H := H1
                  clear H1
                  replace H := Option.bind_eq_some_iff.mp H
                  obtain ⟨t149, A260, H⟩ := H
                  replace H : (if t149 = true then ((spec_syRunes.f kj22 l0_2 l1_2).bind fun t150 => (spec_SySame.j3 kj22 t150 a0_0 a0_1 l0_2 a0_3 a0_4 a0_5 a0_6 l0_7 a1_0 a1_1 l1_2 a1_3 a1_4 a1_5 a1_6 l1_7)) else (spec_SySame.j3 kj22 false a0_0 a0_1 l0_2 a0_3 a0_4 a0_5 a0_6 l0_7 a1_0 a1_1 l1_2 a1_3 a1_4 a1_5 a1_6 l1_7)) = some r := H
                  have A26 := Aside0.mk A260
                  clear A260
                  by_cases c27 : t149 = true
                  · subst c27
                    have H1 : ((spec_syRunes.f kj22 l0_2 l1_2).bind fun t150 => (spec_SySame.j3 kj22 t150 a0_0 a0_1 l0_2 a0_3 a0_4 a0_5 a0_6 l0_7 a1_0 a1_1 l1_2 a1_3 a1_4 a1_5 a1_6 l1_7)) = some r := by rw [if_pos rfl] at H; exact H
                    clear H
                    have H := H1
                    clear H1
                    replace H := Option.bind_eq_some_iff.mp H
                    obtain ⟨t150, A280, H⟩ := H
                    replace H : (spec_SySame.j3 kj22 t150 a0_0 a0_1 l0_2 a0_3 a0_4 a0_5 a0_6 l0_7 a1_0 a1_1 l1_2 a1_3 a1_4 a1_5 a1_6 l1_7) = some r := H
                    have A28 := Aside0.mk A280
                    clear A280
                    have H' := Aside0.mk H
                    clear H
                    have hnb29 := NB146_147.out
                    have hnc29 := NB147_146.out
                    have hcz30_0 : wc.cell? ⟨gb146, 0, none⟩ = some (.int .i64 a0_0) := (blk_cell BK146.out 0).trans rfl
                    have hcz30_1 : wc.cell? ⟨gb146, 1, none⟩ = some (.int .i64 a0_1) := (blk_cell BK146.out 1).trans rfl
                    have hcz30_2 : wc.cell? ⟨gb146, 2, none⟩ = some (.slice A0_2 l0_2.length c0_2) := (blk_cell BK146.out 2).trans rfl
                    have hcz30_3 : wc.cell? ⟨gb146, 3, none⟩ = some (.int .i64 a0_3) := (blk_cell BK146.out 3).trans rfl
                    have hcz30_4 : wc.cell? ⟨gb146, 4, none⟩ = some (.int .i64 a0_4) := (blk_cell BK146.out 4).trans rfl
                    have hcz30_5 : wc.cell? ⟨gb146, 5, none⟩ = some (.int .i64 a0_5) := (blk_cell BK146.out 5).trans rfl
                    have hcz30_6 : wc.cell? ⟨gb146, 6, none⟩ = some (.string a0_6) := (blk_cell BK146.out 6).trans rfl
                    have hcz30_7 : wc.cell? ⟨gb146, 7, none⟩ = some (.slice A0_7 l0_7.length c0_7) := (blk_cell BK146.out 7).trans rfl
                    have hfz30_0 := blk_frozen BK146.out 0
                    have hfz30_1 := blk_frozen BK146.out 1
                    have hfz30_2 := blk_frozen BK146.out 2
                    have hfz30_3 := blk_frozen BK146.out 3
                    have hfz30_4 := blk_frozen BK146.out 4
                    have hfz30_5 := blk_frozen BK146.out 5
                    have hfz30_6 := blk_frozen BK146.out 6
                    have hfz30_7 := blk_frozen BK146.out 7
                    have hcz31_0 : wc.cell? ⟨gb147, 0, none⟩ = some (.int .i64 a1_0) := (blk_cell BK147.out 0).trans rfl
                    have hcz31_1 : wc.cell? ⟨gb147, 1, none⟩ = some (.int .i64 a1_1) := (blk_cell BK147.out 1).trans rfl
                    have hcz31_2 : wc.cell? ⟨gb147, 2, none⟩ = some (.slice A1_2 l1_2.length c1_2) := (blk_cell BK147.out 2).trans rfl
                    have hcz31_3 : wc.cell? ⟨gb147, 3, none⟩ = some (.int .i64 a1_3) := (blk_cell BK147.out 3).trans rfl
                    have hcz31_4 : wc.cell? ⟨gb147, 4, none⟩ = some (.int .i64 a1_4) := (blk_cell BK147.out 4).trans rfl
                    have hcz31_5 : wc.cell? ⟨gb147, 5, none⟩ = some (.int .i64 a1_5) := (blk_cell BK147.out 5).trans rfl
                    have hcz31_6 : wc.cell? ⟨gb147, 6, none⟩ = some (.string a1_6) := (blk_cell BK147.out 6).trans rfl
                    have hcz31_7 : wc.cell? ⟨gb147, 7, none⟩ = some (.slice A1_7 l1_7.length c1_7) := (blk_cell BK147.out 7).trans rfl
                    have hfz31_0 := blk_frozen BK147.out 0
                    have hfz31_1 := blk_frozen BK147.out 1
                    have hfz31_2 := blk_frozen BK147.out 2
                    have hfz31_3 := blk_frozen BK147.out 3
                    have hfz31_4 := blk_frozen BK147.out 4
                    have hfz31_5 := blk_frozen BK147.out 5
                    have hfz31_6 := blk_frozen BK147.out 6
                    have hfz31_7 := blk_frozen BK147.out 7
                    go_wp2_with (first | ((with_reducible refine gate_callee (f := 33) rfl ?_); refine goesL_ (some 33) rfl rfl Try.func33 (by kernel_rfl) rfl #[.agg #[.int .i64 a0_0, .int .i64 a0_1, .slice A0_2 l0_2.length c0_2, .int .i64 a0_3, .int .i64 a0_4, .int .i64 a0_5, .string a0_6, .slice A0_7 l0_7.length c0_7], .agg #[.int .i64 a1_0, .int .i64 a1_1, .slice A1_2 l1_2.length c1_2, .int .i64 a1_3, .int .i64 a1_4, .int .i64 a1_5, .string a1_6, .slice A1_7 l1_7.length c1_7], .int .i64 1] rfl (by (try simp only [List.map_toArray, List.map_cons, List.map_nil]); first | done | rfl | (simp only [List.length_drop, List.length_take]; rfl)) ?_; (with_reducible refine (spec_syBits.calls a0_0 a0_1 _ _ l0_2 a0_3 a0_4 a0_5 a0_6 _ _ l0_7 a1_0 a1_1 _ _ l1_2 a1_3 a1_4 a1_5 a1_6 _ _ l1_7 1 true _ ?side1 ?side2 ?side3 ?side4 ?side5 ?side6 ?side7 ?side8 A26.out).mono ?_); (case side1 => repeat (first | exact (Kd.C_below HR0_2.out HB.out) | (with_reducible refine Kd.C_alloc ?_ _) | (with_reducible refine Kd.C_drewN ?_ _) | (with_reducible refine Kd.C_drew ?_))); (case side2 => exact HC0_2.out); (case side3 => repeat (first | exact (Kd.C_below HR0_7.out HB.out) | (with_reducible refine Kd.C_alloc ?_ _) | (with_reducible refine Kd.C_drewN ?_ _) | (with_reducible refine Kd.C_drew ?_))); (case side4 => exact HC0_7.out); (case side5 => repeat (first | exact (Kd.C_below HR1_2.out HB.out) | (with_reducible refine Kd.C_alloc ?_ _) | (with_reducible refine Kd.C_drewN ?_ _) | (with_reducible refine Kd.C_drew ?_))); (case side6 => exact HC1_2.out); (case side7 => repeat (first | exact (Kd.C_below HR1_7.out HB.out) | (with_reducible refine Kd.C_alloc ?_ _) | (with_reducible refine Kd.C_drewN ?_ _) | (with_reducible refine Kd.C_drew ?_))); (case side8 => exact HC1_7.out); rintro e w32 ⟨rfl, hb⟩; refine ⟨_, rfl, ?_⟩; have n0_ := Aside0.mk (blk_below (g := gb146) (o := .cells #[.int .i64 a0_0, .int .i64 a0_1, .slice A0_2 l0_2.length c0_2, .int .i64 a0_3, .int .i64 a0_4, .int .i64 a0_5, .string a0_6, .slice A0_7 l0_7.length c0_7] 35 (0, 0)) (by (with_reducible repeat (first | refine blk_drewN ?_ _ | refine blk_drew ?_ | refine blk_alloc ?_ _)); exact BK146.out) hb); have n1_ := Aside0.mk (blk_below (g := gb147) (o := .cells #[.int .i64 a1_0, .int .i64 a1_1, .slice A1_2 l1_2.length c1_2, .int .i64 a1_3, .int .i64 a1_4, .int .i64 a1_5, .string a1_6, .slice A1_7 l1_7.length c1_7] 35 (0, 0)) (by (with_reducible repeat (first | refine blk_drewN ?_ _ | refine blk_drew ?_ | refine blk_alloc ?_ _)); exact BK147.out) hb); have n2_ := Aside0.mk (below_step (by repeat (first | (with_reducible first | exact HB.out | apply below_alloc | apply pw_below_drewN | apply below_drew1 | refine below_set ?_ GE146.out | refine below_set ?_ GE147.out) | exact HB.out)) hb); clear BK146; clear BK147; clear HB; have BK146 := n0_; have BK147 := n1_; have HB := n2_; clear n0_ n1_ n2_; (try clear hb); (try clear hb2); (try clear hk); (try clear hi); have hcz33_0 : w32.cell? ⟨gb146, 0, none⟩ = some (.int .i64 a0_0) := (blk_cell BK146.out 0).trans rfl; have hcz33_1 : w32.cell? ⟨gb146, 1, none⟩ = some (.int .i64 a0_1) := (blk_cell BK146.out 1).trans rfl; have hcz33_2 : w32.cell? ⟨gb146, 2, none⟩ = some (.slice A0_2 l0_2.length c0_2) := (blk_cell BK146.out 2).trans rfl; have hcz33_3 : w32.cell? ⟨gb146, 3, none⟩ = some (.int .i64 a0_3) := (blk_cell BK146.out 3).trans rfl; have hcz33_4 : w32.cell? ⟨gb146, 4, none⟩ = some (.int .i64 a0_4) := (blk_cell BK146.out 4).trans rfl; have hcz33_5 : w32.cell? ⟨gb146, 5, none⟩ = some (.int .i64 a0_5) := (blk_cell BK146.out 5).trans rfl; have hcz33_6 : w32.cell? ⟨gb146, 6, none⟩ = some (.string a0_6) := (blk_cell BK146.out 6).trans rfl; have hcz33_7 : w32.cell? ⟨gb146, 7, none⟩ = some (.slice A0_7 l0_7.length c0_7) := (blk_cell BK146.out 7).trans rfl; have hfz33_0 := blk_frozen BK146.out 0; have hfz33_1 := blk_frozen BK146.out 1; have hfz33_2 := blk_frozen BK146.out 2; have hfz33_3 := blk_frozen BK146.out 3; have hfz33_4 := blk_frozen BK146.out 4; have hfz33_5 := blk_frozen BK146.out 5; have hfz33_6 := blk_frozen BK146.out 6; have hfz33_7 := blk_frozen BK146.out 7; have hcz34_0 : w32.cell? ⟨gb147, 0, none⟩ = some (.int .i64 a1_0) := (blk_cell BK147.out 0).trans rfl; have hcz34_1 : w32.cell? ⟨gb147, 1, none⟩ = some (.int .i64 a1_1) := (blk_cell BK147.out 1).trans rfl; have hcz34_2 : w32.cell? ⟨gb147, 2, none⟩ = some (.slice A1_2 l1_2.length c1_2) := (blk_cell BK147.out 2).trans rfl; have hcz34_3 : w32.cell? ⟨gb147, 3, none⟩ = some (.int .i64 a1_3) := (blk_cell BK147.out 3).trans rfl; have hcz34_4 : w32.cell? ⟨gb147, 4, none⟩ = some (.int .i64 a1_4) := (blk_cell BK147.out 4).trans rfl; have hcz34_5 : w32.cell? ⟨gb147, 5, none⟩ = some (.int .i64 a1_5) := (blk_cell BK147.out 5).trans rfl; have hcz34_6 : w32.cell? ⟨gb147, 6, none⟩ = some (.string a1_6) := (blk_cell BK147.out 6).trans rfl; have hcz34_7 : w32.cell? ⟨gb147, 7, none⟩ = some (.slice A1_7 l1_7.length c1_7) := (blk_cell BK147.out 7).trans rfl; have hfz34_0 := blk_frozen BK147.out 0; have hfz34_1 := blk_frozen BK147.out 1; have hfz34_2 := blk_frozen BK147.out 2; have hfz34_3 := blk_frozen BK147.out 3; have hfz34_4 := blk_frozen BK147.out 4; have hfz34_5 := blk_frozen BK147.out 5; have hfz34_6 := blk_frozen BK147.out 6; have hfz34_7 := blk_frozen BK147.out 7) | (go_at_call 34; (with_reducible refine (spec_syRunes.calls kj22 _ _ l0_2 _ _ l1_2 t150 _ ?side1 ?side2 ?side3 ?side4 A28.out).mono ?_); (case side1 => repeat (first | exact (Kd.C_below HR0_2.out HB.out) | (with_reducible refine Kd.C_alloc ?_ _) | (with_reducible refine Kd.C_drewN ?_ _) | (with_reducible refine Kd.C_drew ?_))); (case side2 => exact HC0_2.out); (case side3 => repeat (first | exact (Kd.C_below HR1_2.out HB.out) | (with_reducible refine Kd.C_alloc ?_ _) | (with_reducible refine Kd.C_drewN ?_ _) | (with_reducible refine Kd.C_drew ?_))); (case side4 => exact HC1_2.out); rintro e w' ⟨rfl, ⟨nd, rfl⟩⟩))
                    go_meet
                    case rel => exact ⟨_, (t150), (by first | rfl | (simp; done) | (simp [*]; done)), H', ⟨by have := HJ2.out; have := HJ22.out; first | omega | exact Nat.le_refl _⟩, ⟨by (with_reducible repeat (first | refine blk_drewN ?_ _ | refine blk_drew ?_ | refine blk_alloc ?_ _)); exact BK146.out⟩, ⟨by (with_reducible repeat (first | refine blk_drewN ?_ _ | refine blk_drew ?_ | refine blk_alloc ?_ _)); exact BK147.out⟩, ⟨by repeat (first | (with_reducible first | exact HB.out | apply below_alloc | apply pw_below_drewN | apply below_drew1 | refine below_set ?_ GE146.out | refine below_set ?_ GE147.out) | exact HB.out)⟩⟩
                  · replace c27 := Bool.eq_false_iff.mpr c27
                    subst c27
                    have H1 : (spec_SySame.j3 kj22 false a0_0 a0_1 l0_2 a0_3 a0_4 a0_5 a0_6 l0_7 a1_0 a1_1 l1_2 a1_3 a1_4 a1_5 a1_6 l1_7) = some r := by rw [if_neg (show ¬ (false = true) by decide)] at H; exact H
                    clear H
                    have H := H1
                    clear H1
                    have H' := Aside0.mk H
                    clear H
                    have hnb35 := NB146_147.out
                    have hnc35 := NB147_146.out
                    have hcz36_0 : wc.cell? ⟨gb146, 0, none⟩ = some (.int .i64 a0_0) := (blk_cell BK146.out 0).trans rfl
                    have hcz36_1 : wc.cell? ⟨gb146, 1, none⟩ = some (.int .i64 a0_1) := (blk_cell BK146.out 1).trans rfl
                    have hcz36_2 : wc.cell? ⟨gb146, 2, none⟩ = some (.slice A0_2 l0_2.length c0_2) := (blk_cell BK146.out 2).trans rfl
                    have hcz36_3 : wc.cell? ⟨gb146, 3, none⟩ = some (.int .i64 a0_3) := (blk_cell BK146.out 3).trans rfl
                    have hcz36_4 : wc.cell? ⟨gb146, 4, none⟩ = some (.int .i64 a0_4) := (blk_cell BK146.out 4).trans rfl
                    have hcz36_5 : wc.cell? ⟨gb146, 5, none⟩ = some (.int .i64 a0_5) := (blk_cell BK146.out 5).trans rfl
                    have hcz36_6 : wc.cell? ⟨gb146, 6, none⟩ = some (.string a0_6) := (blk_cell BK146.out 6).trans rfl
                    have hcz36_7 : wc.cell? ⟨gb146, 7, none⟩ = some (.slice A0_7 l0_7.length c0_7) := (blk_cell BK146.out 7).trans rfl
                    have hfz36_0 := blk_frozen BK146.out 0
                    have hfz36_1 := blk_frozen BK146.out 1
                    have hfz36_2 := blk_frozen BK146.out 2
                    have hfz36_3 := blk_frozen BK146.out 3
                    have hfz36_4 := blk_frozen BK146.out 4
                    have hfz36_5 := blk_frozen BK146.out 5
                    have hfz36_6 := blk_frozen BK146.out 6
                    have hfz36_7 := blk_frozen BK146.out 7
                    have hcz37_0 : wc.cell? ⟨gb147, 0, none⟩ = some (.int .i64 a1_0) := (blk_cell BK147.out 0).trans rfl
                    have hcz37_1 : wc.cell? ⟨gb147, 1, none⟩ = some (.int .i64 a1_1) := (blk_cell BK147.out 1).trans rfl
                    have hcz37_2 : wc.cell? ⟨gb147, 2, none⟩ = some (.slice A1_2 l1_2.length c1_2) := (blk_cell BK147.out 2).trans rfl
                    have hcz37_3 : wc.cell? ⟨gb147, 3, none⟩ = some (.int .i64 a1_3) := (blk_cell BK147.out 3).trans rfl
                    have hcz37_4 : wc.cell? ⟨gb147, 4, none⟩ = some (.int .i64 a1_4) := (blk_cell BK147.out 4).trans rfl
                    have hcz37_5 : wc.cell? ⟨gb147, 5, none⟩ = some (.int .i64 a1_5) := (blk_cell BK147.out 5).trans rfl
                    have hcz37_6 : wc.cell? ⟨gb147, 6, none⟩ = some (.string a1_6) := (blk_cell BK147.out 6).trans rfl
                    have hcz37_7 : wc.cell? ⟨gb147, 7, none⟩ = some (.slice A1_7 l1_7.length c1_7) := (blk_cell BK147.out 7).trans rfl
                    have hfz37_0 := blk_frozen BK147.out 0
                    have hfz37_1 := blk_frozen BK147.out 1
                    have hfz37_2 := blk_frozen BK147.out 2
                    have hfz37_3 := blk_frozen BK147.out 3
                    have hfz37_4 := blk_frozen BK147.out 4
                    have hfz37_5 := blk_frozen BK147.out 5
                    have hfz37_6 := blk_frozen BK147.out 6
                    have hfz37_7 := blk_frozen BK147.out 7
                    go_wp2_with (first | ((with_reducible refine gate_callee (f := 33) rfl ?_); refine goesL_ (some 33) rfl rfl Try.func33 (by kernel_rfl) rfl #[.agg #[.int .i64 a0_0, .int .i64 a0_1, .slice A0_2 l0_2.length c0_2, .int .i64 a0_3, .int .i64 a0_4, .int .i64 a0_5, .string a0_6, .slice A0_7 l0_7.length c0_7], .agg #[.int .i64 a1_0, .int .i64 a1_1, .slice A1_2 l1_2.length c1_2, .int .i64 a1_3, .int .i64 a1_4, .int .i64 a1_5, .string a1_6, .slice A1_7 l1_7.length c1_7], .int .i64 1] rfl (by (try simp only [List.map_toArray, List.map_cons, List.map_nil]); first | done | rfl | (simp only [List.length_drop, List.length_take]; rfl)) ?_; (with_reducible refine (spec_syBits.calls a0_0 a0_1 _ _ l0_2 a0_3 a0_4 a0_5 a0_6 _ _ l0_7 a1_0 a1_1 _ _ l1_2 a1_3 a1_4 a1_5 a1_6 _ _ l1_7 1 false _ ?side1 ?side2 ?side3 ?side4 ?side5 ?side6 ?side7 ?side8 A26.out).mono ?_); (case side1 => repeat (first | exact (Kd.C_below HR0_2.out HB.out) | (with_reducible refine Kd.C_alloc ?_ _) | (with_reducible refine Kd.C_drewN ?_ _) | (with_reducible refine Kd.C_drew ?_))); (case side2 => exact HC0_2.out); (case side3 => repeat (first | exact (Kd.C_below HR0_7.out HB.out) | (with_reducible refine Kd.C_alloc ?_ _) | (with_reducible refine Kd.C_drewN ?_ _) | (with_reducible refine Kd.C_drew ?_))); (case side4 => exact HC0_7.out); (case side5 => repeat (first | exact (Kd.C_below HR1_2.out HB.out) | (with_reducible refine Kd.C_alloc ?_ _) | (with_reducible refine Kd.C_drewN ?_ _) | (with_reducible refine Kd.C_drew ?_))); (case side6 => exact HC1_2.out); (case side7 => repeat (first | exact (Kd.C_below HR1_7.out HB.out) | (with_reducible refine Kd.C_alloc ?_ _) | (with_reducible refine Kd.C_drewN ?_ _) | (with_reducible refine Kd.C_drew ?_))); (case side8 => exact HC1_7.out); rintro e w38 ⟨rfl, hb⟩; refine ⟨_, rfl, ?_⟩; have n0_ := Aside0.mk (blk_below (g := gb146) (o := .cells #[.int .i64 a0_0, .int .i64 a0_1, .slice A0_2 l0_2.length c0_2, .int .i64 a0_3, .int .i64 a0_4, .int .i64 a0_5, .string a0_6, .slice A0_7 l0_7.length c0_7] 35 (0, 0)) (by (with_reducible repeat (first | refine blk_drewN ?_ _ | refine blk_drew ?_ | refine blk_alloc ?_ _)); exact BK146.out) hb); have n1_ := Aside0.mk (blk_below (g := gb147) (o := .cells #[.int .i64 a1_0, .int .i64 a1_1, .slice A1_2 l1_2.length c1_2, .int .i64 a1_3, .int .i64 a1_4, .int .i64 a1_5, .string a1_6, .slice A1_7 l1_7.length c1_7] 35 (0, 0)) (by (with_reducible repeat (first | refine blk_drewN ?_ _ | refine blk_drew ?_ | refine blk_alloc ?_ _)); exact BK147.out) hb); have n2_ := Aside0.mk (below_step (by repeat (first | (with_reducible first | exact HB.out | apply below_alloc | apply pw_below_drewN | apply below_drew1 | refine below_set ?_ GE146.out | refine below_set ?_ GE147.out) | exact HB.out)) hb); clear BK146; clear BK147; clear HB; have BK146 := n0_; have BK147 := n1_; have HB := n2_; clear n0_ n1_ n2_; (try clear hb); (try clear hb2); (try clear hk); (try clear hi)))
                    go_meet
                    case rel => exact ⟨_, (false), (by first | rfl | (simp; done) | (simp [*]; done)), H', ⟨by have := HJ2.out; have := HJ22.out; first | omega | exact Nat.le_refl _⟩, ⟨by (with_reducible repeat (first | refine blk_drewN ?_ _ | refine blk_drew ?_ | refine blk_alloc ?_ _)); exact BK146.out⟩, ⟨by (with_reducible repeat (first | refine blk_drewN ?_ _ | refine blk_drew ?_ | refine blk_alloc ?_ _)); exact BK147.out⟩, ⟨by repeat (first | (with_reducible first | exact HB.out | apply below_alloc | apply pw_below_drewN | apply below_drew1 | refine below_set ?_ GE146.out | refine below_set ?_ GE147.out) | exact HB.out)⟩⟩
                · replace c25 := Bool.eq_false_iff.mpr c25
                  subst c25
                  have H1 : (if a0_0 = 14 then (spec_SySame.j2 kj22 true a0_0 (a0_0 == 14) a0_0 a0_1 l0_2 a0_3 a0_4 a0_5 a0_6 l0_7 a1_0 a1_1 l1_2 a1_3 a1_4 a1_5 a1_6 l1_7) else (if a0_0 = 15 then (spec_SySame.j2 kj22 true a0_0 (a0_0 == 15) a0_0 a0_1 l0_2 a0_3 a0_4 a0_5 a0_6 l0_7 a1_0 a1_1 l1_2 a1_3 a1_4 a1_5 a1_6 l1_7) else (spec_SySame.j2 kj22 true a0_0 (a0_0 == 16) a0_0 a0_1 l0_2 a0_3 a0_4 a0_5 a0_6 l0_7 a1_0 a1_1 l1_2 a1_3 a1_4 a1_5 a1_6 l1_7))) = some r := by rw [if_neg (show ¬ (false = true) by decide)] at H; exact H
                  clear H
                  have H := H1
                  clear H1
                  have HC39 := Aside0.mk H
                  clear H
                  go_upto_if 41 with (fail)
                  go_cut [41] (fun v41 wc => ∃ (kq : Nat) (x41_38 : Bool), v41 = .bool x41_38 ∧ Aside0 (spec_SySame.j2 kq true a0_0 x41_38 a0_0 a0_1 l0_2 a0_3 a0_4 a0_5 a0_6 l0_7 a1_0 a1_1 l1_2 a1_3 a1_4 a1_5 a1_6 l1_7 = some r) ∧ Aside0 (kq ≤ kj22) ∧ Aside0 (wc.heap[gb146]? = some (.cells #[.int .i64 a0_0, .int .i64 a0_1, (.slice A0_2 l0_2.length c0_2), .int .i64 a0_3, .int .i64 a0_4, .int .i64 a0_5, .string a0_6, (.slice A0_7 l0_7.length c0_7)] 35 (0, 0))) ∧ Aside0 (wc.heap[gb147]? = some (.cells #[.int .i64 a1_0, .int .i64 a1_1, (.slice A1_2 l1_2.length c1_2), .int .i64 a1_3, .int .i64 a1_4, .int .i64 a1_5, .string a1_6, (.slice A1_7 l1_7.length c1_7)] 35 (0, 0))) ∧ Aside0 (Below w.heap.size w wc))
                  case first =>
                    have H := HC39.out
                    clear HC39
                    by_cases c40 : a0_0 = 14
                    · rw [if_pos c40] at H
                      have c40b0 : (a0_0 == 14) = true := beq_iff_eq.mpr c40
                      have c40b1 : (a0_0 != 14) = false := bne_eq_false_iff_eq.mpr c40
                      clear c40
                      (first | rw [c40b0] | (simp only [i64_w, i32_w]; rw [c40b0]) | skip)
                      have H' := Aside0.mk H
                      clear H
                      go_wp2
                      go_meet
                      case rel => exact ⟨_, ((a0_0 == 14)), (by first | rfl | (simp; done) | (simp [*]; done)), H', ⟨by have := HJ2.out; have := HJ22.out; first | omega | exact Nat.le_refl _⟩, ⟨by (with_reducible repeat (first | refine blk_drewN ?_ _ | refine blk_drew ?_ | refine blk_alloc ?_ _)); exact BK146.out⟩, ⟨by (with_reducible repeat (first | refine blk_drewN ?_ _ | refine blk_drew ?_ | refine blk_alloc ?_ _)); exact BK147.out⟩, ⟨by repeat (first | (with_reducible first | exact HB.out | apply below_alloc | apply pw_below_drewN | apply below_drew1 | refine below_set ?_ GE146.out | refine below_set ?_ GE147.out) | exact HB.out)⟩⟩
                    · rw [if_neg c40] at H
                      have c40b0 : (a0_0 == 14) = false := beq_eq_false_iff_ne.mpr c40
                      have c40b1 : (a0_0 != 14) = true := bne_iff_ne.mpr c40
                      (first | rw [c40b0] | (simp only [i64_w, i32_w]; rw [c40b0]) | skip)
                      by_cases c41 : a0_0 = 15
                      · rw [if_pos c41] at H
                        have c41b0 : (a0_0 == 15) = true := beq_iff_eq.mpr c41
                        have c41b1 : (a0_0 != 15) = false := bne_eq_false_iff_eq.mpr c41
                        clear c41
                        have H' := Aside0.mk H
                        clear H
                        go_wp2
                        go_meet
                        case rel => exact ⟨_, ((a0_0 == 15)), (by first | rfl | (simp; done) | (simp [*]; done)), H', ⟨by have := HJ2.out; have := HJ22.out; first | omega | exact Nat.le_refl _⟩, ⟨by (with_reducible repeat (first | refine blk_drewN ?_ _ | refine blk_drew ?_ | refine blk_alloc ?_ _)); exact BK146.out⟩, ⟨by (with_reducible repeat (first | refine blk_drewN ?_ _ | refine blk_drew ?_ | refine blk_alloc ?_ _)); exact BK147.out⟩, ⟨by repeat (first | (with_reducible first | exact HB.out | apply below_alloc | apply pw_below_drewN | apply below_drew1 | refine below_set ?_ GE146.out | refine below_set ?_ GE147.out) | exact HB.out)⟩⟩
                      · rw [if_neg c41] at H
                        have c41b0 : (a0_0 == 15) = false := beq_eq_false_iff_ne.mpr c41
                        have c41b1 : (a0_0 != 15) = true := bne_iff_ne.mpr c41
                        have H' := Aside0.mk H
                        clear H
                        go_wp2
                        go_meet
                        case rel => exact ⟨_, ((a0_0 == 16)), (by first | rfl | (simp; done) | (simp [*]; done)), H', ⟨by have := HJ2.out; have := HJ22.out; first | omega | exact Nat.le_refl _⟩, ⟨by (with_reducible repeat (first | refine blk_drewN ?_ _ | refine blk_drew ?_ | refine blk_alloc ?_ _)); exact BK146.out⟩, ⟨by (with_reducible repeat (first | refine blk_drewN ?_ _ | refine blk_drew ?_ | refine blk_alloc ?_ _)); exact BK147.out⟩, ⟨by repeat (first | (with_reducible first | exact HB.out | apply below_alloc | apply pw_below_drewN | apply below_drew1 | refine below_set ?_ GE146.out | refine below_set ?_ GE147.out) | exact HB.out)⟩⟩
                  case rest =>
                    clear HC39
                    try clear c1
                    try clear c2
                    try clear p2
                    try clear c3
                    try clear c4
                    try clear c6
                    try clear c6b0
                    try clear c6b1
                    try clear c7
                    try clear c10
                    try clear c13
                    try clear c15
                    try clear c17
                    try clear c17b0
                    try clear c17b1
                    try clear c19
                    try clear c21
                    try clear c24
                    try clear c24b0
                    try clear c24b1
                    try clear c25
                    try clear c27
                    try clear c29
                    try clear c33
                    try clear c35
                    try clear c40
                    try clear c40b0
                    try clear c40b1
                    try clear c41
                    try clear c41b0
                    try clear c41b1
                    try clear hcz11_0
                    try clear hcz11_1
                    try clear hcz11_2
                    try clear hcz11_3
                    try clear hcz11_4
                    try clear hcz11_5
                    try clear hcz11_6
                    try clear hcz11_7
                    try clear hcz12_0
                    try clear hcz12_1
                    try clear hcz12_2
                    try clear hcz12_3
                    try clear hcz12_4
                    try clear hcz12_5
                    try clear hcz12_6
                    try clear hcz12_7
                    try clear hcz16_0
                    try clear hcz16_1
                    try clear hcz16_2
                    try clear hcz16_3
                    try clear hcz16_4
                    try clear hcz16_5
                    try clear hcz16_6
                    try clear hcz16_7
                    try clear hcz20_0
                    try clear hcz20_1
                    try clear hcz20_2
                    try clear hcz20_3
                    try clear hcz20_4
                    try clear hcz20_5
                    try clear hcz20_6
                    try clear hcz20_7
                    try clear hcz21_0
                    try clear hcz21_1
                    try clear hcz21_2
                    try clear hcz21_3
                    try clear hcz21_4
                    try clear hcz21_5
                    try clear hcz21_6
                    try clear hcz21_7
                    try clear hcz30_0
                    try clear hcz30_1
                    try clear hcz30_2
                    try clear hcz30_3
                    try clear hcz30_4
                    try clear hcz30_5
                    try clear hcz30_6
                    try clear hcz30_7
                    try clear hcz31_0
                    try clear hcz31_1
                    try clear hcz31_2
                    try clear hcz31_3
                    try clear hcz31_4
                    try clear hcz31_5
                    try clear hcz31_6
                    try clear hcz31_7
                    try clear hcz33_0
                    try clear hcz33_1
                    try clear hcz33_2
                    try clear hcz33_3
                    try clear hcz33_4
                    try clear hcz33_5
                    try clear hcz33_6
                    try clear hcz33_7
                    try clear hcz34_0
                    try clear hcz34_1
                    try clear hcz34_2
                    try clear hcz34_3
                    try clear hcz34_4
                    try clear hcz34_5
                    try clear hcz34_6
                    try clear hcz34_7
                    try clear hcz36_0
                    try clear hcz36_1
                    try clear hcz36_2
                    try clear hcz36_3
                    try clear hcz36_4
                    try clear hcz36_5
                    try clear hcz36_6
                    try clear hcz36_7
                    try clear hcz37_0
                    try clear hcz37_1
                    try clear hcz37_2
                    try clear hcz37_3
                    try clear hcz37_4
                    try clear hcz37_5
                    try clear hcz37_6
                    try clear hcz37_7
                    try clear hcz8_0
                    try clear hcz8_1
                    try clear hcz8_2
                    try clear hcz8_3
                    try clear hcz8_4
                    try clear hcz8_5
                    try clear hcz8_6
                    try clear hcz8_7
                    try clear hcz9_0
                    try clear hcz9_1
                    try clear hcz9_2
                    try clear hcz9_3
                    try clear hcz9_4
                    try clear hcz9_5
                    try clear hcz9_6
                    try clear hcz9_7
                    try clear hfz11_0
                    try clear hfz11_1
                    try clear hfz11_2
                    try clear hfz11_3
                    try clear hfz11_4
                    try clear hfz11_5
                    try clear hfz11_6
                    try clear hfz11_7
                    try clear hfz12_0
                    try clear hfz12_1
                    try clear hfz12_2
                    try clear hfz12_3
                    try clear hfz12_4
                    try clear hfz12_5
                    try clear hfz12_6
                    try clear hfz12_7
                    try clear hfz16_0
                    try clear hfz16_1
                    try clear hfz16_2
                    try clear hfz16_3
                    try clear hfz16_4
                    try clear hfz16_5
                    try clear hfz16_6
                    try clear hfz16_7
                    try clear hfz20_0
                    try clear hfz20_1
                    try clear hfz20_2
                    try clear hfz20_3
                    try clear hfz20_4
                    try clear hfz20_5
                    try clear hfz20_6
                    try clear hfz20_7
                    try clear hfz21_0
                    try clear hfz21_1
                    try clear hfz21_2
                    try clear hfz21_3
                    try clear hfz21_4
                    try clear hfz21_5
                    try clear hfz21_6
                    try clear hfz21_7
                    try clear hfz30_0
                    try clear hfz30_1
                    try clear hfz30_2
                    try clear hfz30_3
                    try clear hfz30_4
                    try clear hfz30_5
                    try clear hfz30_6
                    try clear hfz30_7
                    try clear hfz31_0
                    try clear hfz31_1
                    try clear hfz31_2
                    try clear hfz31_3
                    try clear hfz31_4
                    try clear hfz31_5
                    try clear hfz31_6
                    try clear hfz31_7
                    try clear hfz33_0
                    try clear hfz33_1
                    try clear hfz33_2
                    try clear hfz33_3
                    try clear hfz33_4
                    try clear hfz33_5
                    try clear hfz33_6
                    try clear hfz33_7
                    try clear hfz34_0
                    try clear hfz34_1
                    try clear hfz34_2
                    try clear hfz34_3
                    try clear hfz34_4
                    try clear hfz34_5
                    try clear hfz34_6
                    try clear hfz34_7
                    try clear hfz36_0
                    try clear hfz36_1
                    try clear hfz36_2
                    try clear hfz36_3
                    try clear hfz36_4
                    try clear hfz36_5
                    try clear hfz36_6
                    try clear hfz36_7
                    try clear hfz37_0
                    try clear hfz37_1
                    try clear hfz37_2
                    try clear hfz37_3
                    try clear hfz37_4
                    try clear hfz37_5
                    try clear hfz37_6
                    try clear hfz37_7
                    try clear hfz8_0
                    try clear hfz8_1
                    try clear hfz8_2
                    try clear hfz8_3
                    try clear hfz8_4
                    try clear hfz8_5
                    try clear hfz8_6
                    try clear hfz8_7
                    try clear hfz9_0
                    try clear hfz9_1
                    try clear hfz9_2
                    try clear hfz9_3
                    try clear hfz9_4
                    try clear hfz9_5
                    try clear hfz9_6
                    try clear hfz9_7
                    try clear p2
                    obtain ⟨kq, x41_38, rfl, HA, HJ38, BK146, BK147, HB⟩ := hcut
                    cases kq with
                    | zero => exact absurd HA.out (by simp [spec_SySame.j2])
                    | succ kj38 =>
                      have H := HA.out
                      clear HA
                      simp only [spec_SySame.j2] at H
                      by_cases c42 : x41_38 = true
                      · subst c42
                        have H1 : ((spec_syBits.f a0_0 a0_1 l0_2 a0_3 a0_4 a0_5 a0_6 l0_7 a1_0 a1_1 l1_2 a1_3 a1_4 a1_5 a1_6 l1_7 32).bind fun t151 => (spec_SySame.j3 kj38 t151 a0_0 a0_1 l0_2 a0_3 a0_4 a0_5 a0_6 l0_7 a1_0 a1_1 l1_2 a1_3 a1_4 a1_5 a1_6 l1_7)) = some r := by rw [if_pos rfl] at H; exact H
                        clear H
                        have H := H1
                        clear H1
                        replace H := Option.bind_eq_some_iff.mp H
                        obtain ⟨t151, A430, H⟩ := H
                        replace H : (spec_SySame.j3 kj38 t151 a0_0 a0_1 l0_2 a0_3 a0_4 a0_5 a0_6 l0_7 a1_0 a1_1 l1_2 a1_3 a1_4 a1_5 a1_6 l1_7) = some r := H
                        have A43 := Aside0.mk A430
                        clear A430
                        have H' := Aside0.mk H
                        clear H
                        have hnb44 := NB146_147.out
                        have hnc44 := NB147_146.out
                        have hcz45_0 : wc.cell? ⟨gb146, 0, none⟩ = some (.int .i64 a0_0) := (blk_cell BK146.out 0).trans rfl
                        have hcz45_1 : wc.cell? ⟨gb146, 1, none⟩ = some (.int .i64 a0_1) := (blk_cell BK146.out 1).trans rfl
                        have hcz45_2 : wc.cell? ⟨gb146, 2, none⟩ = some (.slice A0_2 l0_2.length c0_2) := (blk_cell BK146.out 2).trans rfl
                        have hcz45_3 : wc.cell? ⟨gb146, 3, none⟩ = some (.int .i64 a0_3) := (blk_cell BK146.out 3).trans rfl
                        have hcz45_4 : wc.cell? ⟨gb146, 4, none⟩ = some (.int .i64 a0_4) := (blk_cell BK146.out 4).trans rfl
                        have hcz45_5 : wc.cell? ⟨gb146, 5, none⟩ = some (.int .i64 a0_5) := (blk_cell BK146.out 5).trans rfl
                        have hcz45_6 : wc.cell? ⟨gb146, 6, none⟩ = some (.string a0_6) := (blk_cell BK146.out 6).trans rfl
                        have hcz45_7 : wc.cell? ⟨gb146, 7, none⟩ = some (.slice A0_7 l0_7.length c0_7) := (blk_cell BK146.out 7).trans rfl
                        have hfz45_0 := blk_frozen BK146.out 0
                        have hfz45_1 := blk_frozen BK146.out 1
                        have hfz45_2 := blk_frozen BK146.out 2
                        have hfz45_3 := blk_frozen BK146.out 3
                        have hfz45_4 := blk_frozen BK146.out 4
                        have hfz45_5 := blk_frozen BK146.out 5
                        have hfz45_6 := blk_frozen BK146.out 6
                        have hfz45_7 := blk_frozen BK146.out 7
                        have hcz46_0 : wc.cell? ⟨gb147, 0, none⟩ = some (.int .i64 a1_0) := (blk_cell BK147.out 0).trans rfl
                        have hcz46_1 : wc.cell? ⟨gb147, 1, none⟩ = some (.int .i64 a1_1) := (blk_cell BK147.out 1).trans rfl
                        have hcz46_2 : wc.cell? ⟨gb147, 2, none⟩ = some (.slice A1_2 l1_2.length c1_2) := (blk_cell BK147.out 2).trans rfl
                        have hcz46_3 : wc.cell? ⟨gb147, 3, none⟩ = some (.int .i64 a1_3) := (blk_cell BK147.out 3).trans rfl
                        have hcz46_4 : wc.cell? ⟨gb147, 4, none⟩ = some (.int .i64 a1_4) := (blk_cell BK147.out 4).trans rfl
                        have hcz46_5 : wc.cell? ⟨gb147, 5, none⟩ = some (.int .i64 a1_5) := (blk_cell BK147.out 5).trans rfl
                        have hcz46_6 : wc.cell? ⟨gb147, 6, none⟩ = some (.string a1_6) := (blk_cell BK147.out 6).trans rfl
                        have hcz46_7 : wc.cell? ⟨gb147, 7, none⟩ = some (.slice A1_7 l1_7.length c1_7) := (blk_cell BK147.out 7).trans rfl
                        have hfz46_0 := blk_frozen BK147.out 0
                        have hfz46_1 := blk_frozen BK147.out 1
                        have hfz46_2 := blk_frozen BK147.out 2
                        have hfz46_3 := blk_frozen BK147.out 3
                        have hfz46_4 := blk_frozen BK147.out 4
                        have hfz46_5 := blk_frozen BK147.out 5
                        have hfz46_6 := blk_frozen BK147.out 6
                        have hfz46_7 := blk_frozen BK147.out 7
                        go_wp2_with (first | ((with_reducible refine gate_callee (f := 33) rfl ?_); refine goesL_ (some 47) rfl rfl Try.func33 (by kernel_rfl) rfl #[.agg #[.int .i64 a0_0, .int .i64 a0_1, .slice A0_2 l0_2.length c0_2, .int .i64 a0_3, .int .i64 a0_4, .int .i64 a0_5, .string a0_6, .slice A0_7 l0_7.length c0_7], .agg #[.int .i64 a1_0, .int .i64 a1_1, .slice A1_2 l1_2.length c1_2, .int .i64 a1_3, .int .i64 a1_4, .int .i64 a1_5, .string a1_6, .slice A1_7 l1_7.length c1_7], .int .i64 32] rfl (by (try simp only [List.map_toArray, List.map_cons, List.map_nil]); first | done | rfl | (simp only [List.length_drop, List.length_take]; rfl)) ?_; (with_reducible refine (spec_syBits.calls a0_0 a0_1 _ _ l0_2 a0_3 a0_4 a0_5 a0_6 _ _ l0_7 a1_0 a1_1 _ _ l1_2 a1_3 a1_4 a1_5 a1_6 _ _ l1_7 32 t151 _ ?side1 ?side2 ?side3 ?side4 ?side5 ?side6 ?side7 ?side8 A43.out).mono ?_); (case side1 => repeat (first | exact (Kd.C_below HR0_2.out HB.out) | (with_reducible refine Kd.C_alloc ?_ _) | (with_reducible refine Kd.C_drewN ?_ _) | (with_reducible refine Kd.C_drew ?_))); (case side2 => exact HC0_2.out); (case side3 => repeat (first | exact (Kd.C_below HR0_7.out HB.out) | (with_reducible refine Kd.C_alloc ?_ _) | (with_reducible refine Kd.C_drewN ?_ _) | (with_reducible refine Kd.C_drew ?_))); (case side4 => exact HC0_7.out); (case side5 => repeat (first | exact (Kd.C_below HR1_2.out HB.out) | (with_reducible refine Kd.C_alloc ?_ _) | (with_reducible refine Kd.C_drewN ?_ _) | (with_reducible refine Kd.C_drew ?_))); (case side6 => exact HC1_2.out); (case side7 => repeat (first | exact (Kd.C_below HR1_7.out HB.out) | (with_reducible refine Kd.C_alloc ?_ _) | (with_reducible refine Kd.C_drewN ?_ _) | (with_reducible refine Kd.C_drew ?_))); (case side8 => exact HC1_7.out); rintro e w47 ⟨rfl, hb⟩; refine ⟨_, rfl, ?_⟩; have n0_ := Aside0.mk (blk_below (g := gb146) (o := .cells #[.int .i64 a0_0, .int .i64 a0_1, .slice A0_2 l0_2.length c0_2, .int .i64 a0_3, .int .i64 a0_4, .int .i64 a0_5, .string a0_6, .slice A0_7 l0_7.length c0_7] 35 (0, 0)) (by (with_reducible repeat (first | refine blk_drewN ?_ _ | refine blk_drew ?_ | refine blk_alloc ?_ _)); exact BK146.out) hb); have n1_ := Aside0.mk (blk_below (g := gb147) (o := .cells #[.int .i64 a1_0, .int .i64 a1_1, .slice A1_2 l1_2.length c1_2, .int .i64 a1_3, .int .i64 a1_4, .int .i64 a1_5, .string a1_6, .slice A1_7 l1_7.length c1_7] 35 (0, 0)) (by (with_reducible repeat (first | refine blk_drewN ?_ _ | refine blk_drew ?_ | refine blk_alloc ?_ _)); exact BK147.out) hb); have n2_ := Aside0.mk (below_step (by repeat (first | (with_reducible first | exact HB.out | apply below_alloc | apply pw_below_drewN | apply below_drew1 | refine below_set ?_ GE146.out | refine below_set ?_ GE147.out) | exact HB.out)) hb); clear BK146; clear BK147; clear HB; have BK146 := n0_; have BK147 := n1_; have HB := n2_; clear n0_ n1_ n2_; (try clear hb); (try clear hb2); (try clear hk); (try clear hi)))
                        go_meet
                        case rel => exact ⟨_, (t151), (by first | rfl | (simp; done) | (simp [*]; done)), H', ⟨by have := HJ2.out; have := HJ22.out; have := HJ38.out; first | omega | exact Nat.le_refl _⟩, ⟨by (with_reducible repeat (first | refine blk_drewN ?_ _ | refine blk_drew ?_ | refine blk_alloc ?_ _)); exact BK146.out⟩, ⟨by (with_reducible repeat (first | refine blk_drewN ?_ _ | refine blk_drew ?_ | refine blk_alloc ?_ _)); exact BK147.out⟩, ⟨by repeat (first | (with_reducible first | exact HB.out | apply below_alloc | apply pw_below_drewN | apply below_drew1 | refine below_set ?_ GE146.out | refine below_set ?_ GE147.out) | exact HB.out)⟩⟩
                      · replace c42 := Bool.eq_false_iff.mpr c42
                        subst c42
                        have H1 : (if a0_0 = 17 then ((spec_syBits.f a0_0 a0_1 l0_2 a0_3 a0_4 a0_5 a0_6 l0_7 a1_0 a1_1 l1_2 a1_3 a1_4 a1_5 a1_6 l1_7 32).bind fun t152 => (if t152 = true then (if a0_3 = a1_3 then (spec_SySame.j3 kj38 (a0_4 == a1_4) a0_0 a0_1 l0_2 a0_3 a0_4 a0_5 a0_6 l0_7 a1_0 a1_1 l1_2 a1_3 a1_4 a1_5 a1_6 l1_7) else (spec_SySame.j3 kj38 false a0_0 a0_1 l0_2 a0_3 a0_4 a0_5 a0_6 l0_7 a1_0 a1_1 l1_2 a1_3 a1_4 a1_5 a1_6 l1_7)) else (spec_SySame.j3 kj38 false a0_0 a0_1 l0_2 a0_3 a0_4 a0_5 a0_6 l0_7 a1_0 a1_1 l1_2 a1_3 a1_4 a1_5 a1_6 l1_7))) else (if a0_0 = 13 then (if a0_5 = a1_5 then (spec_SySame.j3 kj38 (a0_6.toList == a1_6.toList) a0_0 a0_1 l0_2 a0_3 a0_4 a0_5 a0_6 l0_7 a1_0 a1_1 l1_2 a1_3 a1_4 a1_5 a1_6 l1_7) else (spec_SySame.j3 kj38 false a0_0 a0_1 l0_2 a0_3 a0_4 a0_5 a0_6 l0_7 a1_0 a1_1 l1_2 a1_3 a1_4 a1_5 a1_6 l1_7)) else (spec_SySame.j3 kj38 true a0_0 a0_1 l0_2 a0_3 a0_4 a0_5 a0_6 l0_7 a1_0 a1_1 l1_2 a1_3 a1_4 a1_5 a1_6 l1_7))) = some r := by rw [if_neg (show ¬ (false = true) by decide)] at H; exact H
                        clear H
                        have H := H1
                        clear H1
                        by_cases c48 : a0_0 = 17
                        · rw [if_pos c48] at H
                          have c48b0 : (a0_0 == 17) = true := beq_iff_eq.mpr c48
                          have c48b1 : (a0_0 != 17) = false := bne_eq_false_iff_eq.mpr c48
                          clear c48
                          replace H := Option.bind_eq_some_iff.mp H
                          obtain ⟨t152, A490, H⟩ := H
                          replace H : (if t152 = true then (if a0_3 = a1_3 then (spec_SySame.j3 kj38 (a0_4 == a1_4) a0_0 a0_1 l0_2 a0_3 a0_4 a0_5 a0_6 l0_7 a1_0 a1_1 l1_2 a1_3 a1_4 a1_5 a1_6 l1_7) else (spec_SySame.j3 kj38 false a0_0 a0_1 l0_2 a0_3 a0_4 a0_5 a0_6 l0_7 a1_0 a1_1 l1_2 a1_3 a1_4 a1_5 a1_6 l1_7)) else (spec_SySame.j3 kj38 false a0_0 a0_1 l0_2 a0_3 a0_4 a0_5 a0_6 l0_7 a1_0 a1_1 l1_2 a1_3 a1_4 a1_5 a1_6 l1_7)) = some r := H
                          have A49 := Aside0.mk A490
                          clear A490
                          by_cases c50 : t152 = true
                          · subst c50
                            have H1 : (if a0_3 = a1_3 then (spec_SySame.j3 kj38 (a0_4 == a1_4) a0_0 a0_1 l0_2 a0_3 a0_4 a0_5 a0_6 l0_7 a1_0 a1_1 l1_2 a1_3 a1_4 a1_5 a1_6 l1_7) else (spec_SySame.j3 kj38 false a0_0 a0_1 l0_2 a0_3 a0_4 a0_5 a0_6 l0_7 a1_0 a1_1 l1_2 a1_3 a1_4 a1_5 a1_6 l1_7)) = some r := by rw [if_pos rfl] at H; exact H
                            clear H
                            have H := H1
                            clear H1
                            by_cases c51 : a0_3 = a1_3
                            · rw [if_pos c51] at H
                              have c51b0 : (a0_3 == a1_3) = true := beq_iff_eq.mpr c51
                              have c51b1 : (a0_3 != a1_3) = false := bne_eq_false_iff_eq.mpr c51
                              clear c51
                              have H' := Aside0.mk H
                              clear H
                              have hnb52 := NB146_147.out
                              have hnc52 := NB147_146.out
                              have hcz53_0 : wc.cell? ⟨gb146, 0, none⟩ = some (.int .i64 a0_0) := (blk_cell BK146.out 0).trans rfl
                              have hcz53_1 : wc.cell? ⟨gb146, 1, none⟩ = some (.int .i64 a0_1) := (blk_cell BK146.out 1).trans rfl
                              have hcz53_2 : wc.cell? ⟨gb146, 2, none⟩ = some (.slice A0_2 l0_2.length c0_2) := (blk_cell BK146.out 2).trans rfl
                              have hcz53_3 : wc.cell? ⟨gb146, 3, none⟩ = some (.int .i64 a0_3) := (blk_cell BK146.out 3).trans rfl
                              have hcz53_4 : wc.cell? ⟨gb146, 4, none⟩ = some (.int .i64 a0_4) := (blk_cell BK146.out 4).trans rfl
                              have hcz53_5 : wc.cell? ⟨gb146, 5, none⟩ = some (.int .i64 a0_5) := (blk_cell BK146.out 5).trans rfl
                              have hcz53_6 : wc.cell? ⟨gb146, 6, none⟩ = some (.string a0_6) := (blk_cell BK146.out 6).trans rfl
                              have hcz53_7 : wc.cell? ⟨gb146, 7, none⟩ = some (.slice A0_7 l0_7.length c0_7) := (blk_cell BK146.out 7).trans rfl
                              have hfz53_0 := blk_frozen BK146.out 0
                              have hfz53_1 := blk_frozen BK146.out 1
                              have hfz53_2 := blk_frozen BK146.out 2
                              have hfz53_3 := blk_frozen BK146.out 3
                              have hfz53_4 := blk_frozen BK146.out 4
                              have hfz53_5 := blk_frozen BK146.out 5
                              have hfz53_6 := blk_frozen BK146.out 6
                              have hfz53_7 := blk_frozen BK146.out 7
                              have hcz54_0 : wc.cell? ⟨gb147, 0, none⟩ = some (.int .i64 a1_0) := (blk_cell BK147.out 0).trans rfl
                              have hcz54_1 : wc.cell? ⟨gb147, 1, none⟩ = some (.int .i64 a1_1) := (blk_cell BK147.out 1).trans rfl
                              have hcz54_2 : wc.cell? ⟨gb147, 2, none⟩ = some (.slice A1_2 l1_2.length c1_2) := (blk_cell BK147.out 2).trans rfl
                              have hcz54_3 : wc.cell? ⟨gb147, 3, none⟩ = some (.int .i64 a1_3) := (blk_cell BK147.out 3).trans rfl
                              have hcz54_4 : wc.cell? ⟨gb147, 4, none⟩ = some (.int .i64 a1_4) := (blk_cell BK147.out 4).trans rfl
                              have hcz54_5 : wc.cell? ⟨gb147, 5, none⟩ = some (.int .i64 a1_5) := (blk_cell BK147.out 5).trans rfl
                              have hcz54_6 : wc.cell? ⟨gb147, 6, none⟩ = some (.string a1_6) := (blk_cell BK147.out 6).trans rfl
                              have hcz54_7 : wc.cell? ⟨gb147, 7, none⟩ = some (.slice A1_7 l1_7.length c1_7) := (blk_cell BK147.out 7).trans rfl
                              have hfz54_0 := blk_frozen BK147.out 0
                              have hfz54_1 := blk_frozen BK147.out 1
                              have hfz54_2 := blk_frozen BK147.out 2
                              have hfz54_3 := blk_frozen BK147.out 3
                              have hfz54_4 := blk_frozen BK147.out 4
                              have hfz54_5 := blk_frozen BK147.out 5
                              have hfz54_6 := blk_frozen BK147.out 6
                              have hfz54_7 := blk_frozen BK147.out 7
                              go_wp2_with (first | ((with_reducible refine gate_callee (f := 33) rfl ?_); refine goesL_ (some 52) rfl rfl Try.func33 (by kernel_rfl) rfl #[.agg #[.int .i64 a0_0, .int .i64 a0_1, .slice A0_2 l0_2.length c0_2, .int .i64 a0_3, .int .i64 a0_4, .int .i64 a0_5, .string a0_6, .slice A0_7 l0_7.length c0_7], .agg #[.int .i64 a1_0, .int .i64 a1_1, .slice A1_2 l1_2.length c1_2, .int .i64 a1_3, .int .i64 a1_4, .int .i64 a1_5, .string a1_6, .slice A1_7 l1_7.length c1_7], .int .i64 32] rfl (by (try simp only [List.map_toArray, List.map_cons, List.map_nil]); first | done | rfl | (simp only [List.length_drop, List.length_take]; rfl)) ?_; (with_reducible refine (spec_syBits.calls a0_0 a0_1 _ _ l0_2 a0_3 a0_4 a0_5 a0_6 _ _ l0_7 a1_0 a1_1 _ _ l1_2 a1_3 a1_4 a1_5 a1_6 _ _ l1_7 32 true _ ?side1 ?side2 ?side3 ?side4 ?side5 ?side6 ?side7 ?side8 A49.out).mono ?_); (case side1 => repeat (first | exact (Kd.C_below HR0_2.out HB.out) | (with_reducible refine Kd.C_alloc ?_ _) | (with_reducible refine Kd.C_drewN ?_ _) | (with_reducible refine Kd.C_drew ?_))); (case side2 => exact HC0_2.out); (case side3 => repeat (first | exact (Kd.C_below HR0_7.out HB.out) | (with_reducible refine Kd.C_alloc ?_ _) | (with_reducible refine Kd.C_drewN ?_ _) | (with_reducible refine Kd.C_drew ?_))); (case side4 => exact HC0_7.out); (case side5 => repeat (first | exact (Kd.C_below HR1_2.out HB.out) | (with_reducible refine Kd.C_alloc ?_ _) | (with_reducible refine Kd.C_drewN ?_ _) | (with_reducible refine Kd.C_drew ?_))); (case side6 => exact HC1_2.out); (case side7 => repeat (first | exact (Kd.C_below HR1_7.out HB.out) | (with_reducible refine Kd.C_alloc ?_ _) | (with_reducible refine Kd.C_drewN ?_ _) | (with_reducible refine Kd.C_drew ?_))); (case side8 => exact HC1_7.out); rintro e w55 ⟨rfl, hb⟩; refine ⟨_, rfl, ?_⟩; have n0_ := Aside0.mk (blk_below (g := gb146) (o := .cells #[.int .i64 a0_0, .int .i64 a0_1, .slice A0_2 l0_2.length c0_2, .int .i64 a0_3, .int .i64 a0_4, .int .i64 a0_5, .string a0_6, .slice A0_7 l0_7.length c0_7] 35 (0, 0)) (by (with_reducible repeat (first | refine blk_drewN ?_ _ | refine blk_drew ?_ | refine blk_alloc ?_ _)); exact BK146.out) hb); have n1_ := Aside0.mk (blk_below (g := gb147) (o := .cells #[.int .i64 a1_0, .int .i64 a1_1, .slice A1_2 l1_2.length c1_2, .int .i64 a1_3, .int .i64 a1_4, .int .i64 a1_5, .string a1_6, .slice A1_7 l1_7.length c1_7] 35 (0, 0)) (by (with_reducible repeat (first | refine blk_drewN ?_ _ | refine blk_drew ?_ | refine blk_alloc ?_ _)); exact BK147.out) hb); have n2_ := Aside0.mk (below_step (by repeat (first | (with_reducible first | exact HB.out | apply below_alloc | apply pw_below_drewN | apply below_drew1 | refine below_set ?_ GE146.out | refine below_set ?_ GE147.out) | exact HB.out)) hb); clear BK146; clear BK147; clear HB; have BK146 := n0_; have BK147 := n1_; have HB := n2_; clear n0_ n1_ n2_; (try clear hb); (try clear hb2); (try clear hk); (try clear hi); have hcz56_0 : w55.cell? ⟨gb146, 0, none⟩ = some (.int .i64 a0_0) := (blk_cell BK146.out 0).trans rfl; have hcz56_1 : w55.cell? ⟨gb146, 1, none⟩ = some (.int .i64 a0_1) := (blk_cell BK146.out 1).trans rfl; have hcz56_2 : w55.cell? ⟨gb146, 2, none⟩ = some (.slice A0_2 l0_2.length c0_2) := (blk_cell BK146.out 2).trans rfl; have hcz56_3 : w55.cell? ⟨gb146, 3, none⟩ = some (.int .i64 a0_3) := (blk_cell BK146.out 3).trans rfl; have hcz56_4 : w55.cell? ⟨gb146, 4, none⟩ = some (.int .i64 a0_4) := (blk_cell BK146.out 4).trans rfl; have hcz56_5 : w55.cell? ⟨gb146, 5, none⟩ = some (.int .i64 a0_5) := (blk_cell BK146.out 5).trans rfl; have hcz56_6 : w55.cell? ⟨gb146, 6, none⟩ = some (.string a0_6) := (blk_cell BK146.out 6).trans rfl; have hcz56_7 : w55.cell? ⟨gb146, 7, none⟩ = some (.slice A0_7 l0_7.length c0_7) := (blk_cell BK146.out 7).trans rfl; have hfz56_0 := blk_frozen BK146.out 0; have hfz56_1 := blk_frozen BK146.out 1; have hfz56_2 := blk_frozen BK146.out 2; have hfz56_3 := blk_frozen BK146.out 3; have hfz56_4 := blk_frozen BK146.out 4; have hfz56_5 := blk_frozen BK146.out 5; have hfz56_6 := blk_frozen BK146.out 6; have hfz56_7 := blk_frozen BK146.out 7; have hcz57_0 : w55.cell? ⟨gb147, 0, none⟩ = some (.int .i64 a1_0) := (blk_cell BK147.out 0).trans rfl; have hcz57_1 : w55.cell? ⟨gb147, 1, none⟩ = some (.int .i64 a1_1) := (blk_cell BK147.out 1).trans rfl; have hcz57_2 : w55.cell? ⟨gb147, 2, none⟩ = some (.slice A1_2 l1_2.length c1_2) := (blk_cell BK147.out 2).trans rfl; have hcz57_3 : w55.cell? ⟨gb147, 3, none⟩ = some (.int .i64 a1_3) := (blk_cell BK147.out 3).trans rfl; have hcz57_4 : w55.cell? ⟨gb147, 4, none⟩ = some (.int .i64 a1_4) := (blk_cell BK147.out 4).trans rfl; have hcz57_5 : w55.cell? ⟨gb147, 5, none⟩ = some (.int .i64 a1_5) := (blk_cell BK147.out 5).trans rfl; have hcz57_6 : w55.cell? ⟨gb147, 6, none⟩ = some (.string a1_6) := (blk_cell BK147.out 6).trans rfl; have hcz57_7 : w55.cell? ⟨gb147, 7, none⟩ = some (.slice A1_7 l1_7.length c1_7) := (blk_cell BK147.out 7).trans rfl; have hfz57_0 := blk_frozen BK147.out 0; have hfz57_1 := blk_frozen BK147.out 1; have hfz57_2 := blk_frozen BK147.out 2; have hfz57_3 := blk_frozen BK147.out 3; have hfz57_4 := blk_frozen BK147.out 4; have hfz57_5 := blk_frozen BK147.out 5; have hfz57_6 := blk_frozen BK147.out 6; have hfz57_7 := blk_frozen BK147.out 7))
                              go_meet
                              case rel => exact ⟨_, ((a0_4 == a1_4)), (by first | rfl | (simp; done) | (simp [*]; done)), H', ⟨by have := HJ2.out; have := HJ22.out; have := HJ38.out; first | omega | exact Nat.le_refl _⟩, ⟨by (with_reducible repeat (first | refine blk_drewN ?_ _ | refine blk_drew ?_ | refine blk_alloc ?_ _)); exact BK146.out⟩, ⟨by (with_reducible repeat (first | refine blk_drewN ?_ _ | refine blk_drew ?_ | refine blk_alloc ?_ _)); exact BK147.out⟩, ⟨by repeat (first | (with_reducible first | exact HB.out | apply below_alloc | apply pw_below_drewN | apply below_drew1 | refine below_set ?_ GE146.out | refine below_set ?_ GE147.out) | exact HB.out)⟩⟩
                            · rw [if_neg c51] at H
                              have c51b0 : (a0_3 == a1_3) = false := beq_eq_false_iff_ne.mpr c51
                              have c51b1 : (a0_3 != a1_3) = true := bne_iff_ne.mpr c51
                              have H' := Aside0.mk H
                              clear H
                              have hnb58 := NB146_147.out
                              have hnc58 := NB147_146.out
                              have hcz59_0 : wc.cell? ⟨gb146, 0, none⟩ = some (.int .i64 a0_0) := (blk_cell BK146.out 0).trans rfl
                              have hcz59_1 : wc.cell? ⟨gb146, 1, none⟩ = some (.int .i64 a0_1) := (blk_cell BK146.out 1).trans rfl
                              have hcz59_2 : wc.cell? ⟨gb146, 2, none⟩ = some (.slice A0_2 l0_2.length c0_2) := (blk_cell BK146.out 2).trans rfl
                              have hcz59_3 : wc.cell? ⟨gb146, 3, none⟩ = some (.int .i64 a0_3) := (blk_cell BK146.out 3).trans rfl
                              have hcz59_4 : wc.cell? ⟨gb146, 4, none⟩ = some (.int .i64 a0_4) := (blk_cell BK146.out 4).trans rfl
                              have hcz59_5 : wc.cell? ⟨gb146, 5, none⟩ = some (.int .i64 a0_5) := (blk_cell BK146.out 5).trans rfl
                              have hcz59_6 : wc.cell? ⟨gb146, 6, none⟩ = some (.string a0_6) := (blk_cell BK146.out 6).trans rfl
                              have hcz59_7 : wc.cell? ⟨gb146, 7, none⟩ = some (.slice A0_7 l0_7.length c0_7) := (blk_cell BK146.out 7).trans rfl
                              have hfz59_0 := blk_frozen BK146.out 0
                              have hfz59_1 := blk_frozen BK146.out 1
                              have hfz59_2 := blk_frozen BK146.out 2
                              have hfz59_3 := blk_frozen BK146.out 3
                              have hfz59_4 := blk_frozen BK146.out 4
                              have hfz59_5 := blk_frozen BK146.out 5
                              have hfz59_6 := blk_frozen BK146.out 6
                              have hfz59_7 := blk_frozen BK146.out 7
                              have hcz60_0 : wc.cell? ⟨gb147, 0, none⟩ = some (.int .i64 a1_0) := (blk_cell BK147.out 0).trans rfl
                              have hcz60_1 : wc.cell? ⟨gb147, 1, none⟩ = some (.int .i64 a1_1) := (blk_cell BK147.out 1).trans rfl
                              have hcz60_2 : wc.cell? ⟨gb147, 2, none⟩ = some (.slice A1_2 l1_2.length c1_2) := (blk_cell BK147.out 2).trans rfl
                              have hcz60_3 : wc.cell? ⟨gb147, 3, none⟩ = some (.int .i64 a1_3) := (blk_cell BK147.out 3).trans rfl
                              have hcz60_4 : wc.cell? ⟨gb147, 4, none⟩ = some (.int .i64 a1_4) := (blk_cell BK147.out 4).trans rfl
                              have hcz60_5 : wc.cell? ⟨gb147, 5, none⟩ = some (.int .i64 a1_5) := (blk_cell BK147.out 5).trans rfl
                              have hcz60_6 : wc.cell? ⟨gb147, 6, none⟩ = some (.string a1_6) := (blk_cell BK147.out 6).trans rfl
                              have hcz60_7 : wc.cell? ⟨gb147, 7, none⟩ = some (.slice A1_7 l1_7.length c1_7) := (blk_cell BK147.out 7).trans rfl
                              have hfz60_0 := blk_frozen BK147.out 0
                              have hfz60_1 := blk_frozen BK147.out 1
                              have hfz60_2 := blk_frozen BK147.out 2
                              have hfz60_3 := blk_frozen BK147.out 3
                              have hfz60_4 := blk_frozen BK147.out 4
                              have hfz60_5 := blk_frozen BK147.out 5
                              have hfz60_6 := blk_frozen BK147.out 6
                              have hfz60_7 := blk_frozen BK147.out 7
                              go_wp2_with (first | ((with_reducible refine gate_callee (f := 33) rfl ?_); refine goesL_ (some 52) rfl rfl Try.func33 (by kernel_rfl) rfl #[.agg #[.int .i64 a0_0, .int .i64 a0_1, .slice A0_2 l0_2.length c0_2, .int .i64 a0_3, .int .i64 a0_4, .int .i64 a0_5, .string a0_6, .slice A0_7 l0_7.length c0_7], .agg #[.int .i64 a1_0, .int .i64 a1_1, .slice A1_2 l1_2.length c1_2, .int .i64 a1_3, .int .i64 a1_4, .int .i64 a1_5, .string a1_6, .slice A1_7 l1_7.length c1_7], .int .i64 32] rfl (by (try simp only [List.map_toArray, List.map_cons, List.map_nil]); first | done | rfl | (simp only [List.length_drop, List.length_take]; rfl)) ?_; (with_reducible refine (spec_syBits.calls a0_0 a0_1 _ _ l0_2 a0_3 a0_4 a0_5 a0_6 _ _ l0_7 a1_0 a1_1 _ _ l1_2 a1_3 a1_4 a1_5 a1_6 _ _ l1_7 32 true _ ?side1 ?side2 ?side3 ?side4 ?side5 ?side6 ?side7 ?side8 A49.out).mono ?_); (case side1 => repeat (first | exact (Kd.C_below HR0_2.out HB.out) | (with_reducible refine Kd.C_alloc ?_ _) | (with_reducible refine Kd.C_drewN ?_ _) | (with_reducible refine Kd.C_drew ?_))); (case side2 => exact HC0_2.out); (case side3 => repeat (first | exact (Kd.C_below HR0_7.out HB.out) | (with_reducible refine Kd.C_alloc ?_ _) | (with_reducible refine Kd.C_drewN ?_ _) | (with_reducible refine Kd.C_drew ?_))); (case side4 => exact HC0_7.out); (case side5 => repeat (first | exact (Kd.C_below HR1_2.out HB.out) | (with_reducible refine Kd.C_alloc ?_ _) | (with_reducible refine Kd.C_drewN ?_ _) | (with_reducible refine Kd.C_drew ?_))); (case side6 => exact HC1_2.out); (case side7 => repeat (first | exact (Kd.C_below HR1_7.out HB.out) | (with_reducible refine Kd.C_alloc ?_ _) | (with_reducible refine Kd.C_drewN ?_ _) | (with_reducible refine Kd.C_drew ?_))); (case side8 => exact HC1_7.out); rintro e w61 ⟨rfl, hb⟩; refine ⟨_, rfl, ?_⟩; have n0_ := Aside0.mk (blk_below (g := gb146) (o := .cells #[.int .i64 a0_0, .int .i64 a0_1, .slice A0_2 l0_2.length c0_2, .int .i64 a0_3, .int .i64 a0_4, .int .i64 a0_5, .string a0_6, .slice A0_7 l0_7.length c0_7] 35 (0, 0)) (by (with_reducible repeat (first | refine blk_drewN ?_ _ | refine blk_drew ?_ | refine blk_alloc ?_ _)); exact BK146.out) hb); have n1_ := Aside0.mk (blk_below (g := gb147) (o := .cells #[.int .i64 a1_0, .int .i64 a1_1, .slice A1_2 l1_2.length c1_2, .int .i64 a1_3, .int .i64 a1_4, .int .i64 a1_5, .string a1_6, .slice A1_7 l1_7.length c1_7] 35 (0, 0)) (by (with_reducible repeat (first | refine blk_drewN ?_ _ | refine blk_drew ?_ | refine blk_alloc ?_ _)); exact BK147.out) hb); have n2_ := Aside0.mk (below_step (by repeat (first | (with_reducible first | exact HB.out | apply below_alloc | apply pw_below_drewN | apply below_drew1 | refine below_set ?_ GE146.out | refine below_set ?_ GE147.out) | exact HB.out)) hb); clear BK146; clear BK147; clear HB; have BK146 := n0_; have BK147 := n1_; have HB := n2_; clear n0_ n1_ n2_; (try clear hb); (try clear hb2); (try clear hk); (try clear hi); have hcz62_0 : w61.cell? ⟨gb146, 0, none⟩ = some (.int .i64 a0_0) := (blk_cell BK146.out 0).trans rfl; have hcz62_1 : w61.cell? ⟨gb146, 1, none⟩ = some (.int .i64 a0_1) := (blk_cell BK146.out 1).trans rfl; have hcz62_2 : w61.cell? ⟨gb146, 2, none⟩ = some (.slice A0_2 l0_2.length c0_2) := (blk_cell BK146.out 2).trans rfl; have hcz62_3 : w61.cell? ⟨gb146, 3, none⟩ = some (.int .i64 a0_3) := (blk_cell BK146.out 3).trans rfl; have hcz62_4 : w61.cell? ⟨gb146, 4, none⟩ = some (.int .i64 a0_4) := (blk_cell BK146.out 4).trans rfl; have hcz62_5 : w61.cell? ⟨gb146, 5, none⟩ = some (.int .i64 a0_5) := (blk_cell BK146.out 5).trans rfl; have hcz62_6 : w61.cell? ⟨gb146, 6, none⟩ = some (.string a0_6) := (blk_cell BK146.out 6).trans rfl; have hcz62_7 : w61.cell? ⟨gb146, 7, none⟩ = some (.slice A0_7 l0_7.length c0_7) := (blk_cell BK146.out 7).trans rfl; have hfz62_0 := blk_frozen BK146.out 0; have hfz62_1 := blk_frozen BK146.out 1; have hfz62_2 := blk_frozen BK146.out 2; have hfz62_3 := blk_frozen BK146.out 3; have hfz62_4 := blk_frozen BK146.out 4; have hfz62_5 := blk_frozen BK146.out 5; have hfz62_6 := blk_frozen BK146.out 6; have hfz62_7 := blk_frozen BK146.out 7; have hcz63_0 : w61.cell? ⟨gb147, 0, none⟩ = some (.int .i64 a1_0) := (blk_cell BK147.out 0).trans rfl; have hcz63_1 : w61.cell? ⟨gb147, 1, none⟩ = some (.int .i64 a1_1) := (blk_cell BK147.out 1).trans rfl; have hcz63_2 : w61.cell? ⟨gb147, 2, none⟩ = some (.slice A1_2 l1_2.length c1_2) := (blk_cell BK147.out 2).trans rfl; have hcz63_3 : w61.cell? ⟨gb147, 3, none⟩ = some (.int .i64 a1_3) := (blk_cell BK147.out 3).trans rfl; have hcz63_4 : w61.cell? ⟨gb147, 4, none⟩ = some (.int .i64 a1_4) := (blk_cell BK147.out 4).trans rfl; have hcz63_5 : w61.cell? ⟨gb147, 5, none⟩ = some (.int .i64 a1_5) := (blk_cell BK147.out 5).trans rfl; have hcz63_6 : w61.cell? ⟨gb147, 6, none⟩ = some (.string a1_6) := (blk_cell BK147.out 6).trans rfl; have hcz63_7 : w61.cell? ⟨gb147, 7, none⟩ = some (.slice A1_7 l1_7.length c1_7) := (blk_cell BK147.out 7).trans rfl; have hfz63_0 := blk_frozen BK147.out 0; have hfz63_1 := blk_frozen BK147.out 1; have hfz63_2 := blk_frozen BK147.out 2; have hfz63_3 := blk_frozen BK147.out 3; have hfz63_4 := blk_frozen BK147.out 4; have hfz63_5 := blk_frozen BK147.out 5; have hfz63_6 := blk_frozen BK147.out 6; have hfz63_7 := blk_frozen BK147.out 7))
                              go_meet
                              case rel => exact ⟨_, (false), (by first | rfl | (simp; done) | (simp [*]; done)), H', ⟨by have := HJ2.out; have := HJ22.out; have := HJ38.out; first | omega | exact Nat.le_refl _⟩, ⟨by (with_reducible repeat (first | refine blk_drewN ?_ _ | refine blk_drew ?_ | refine blk_alloc ?_ _)); exact BK146.out⟩, ⟨by (with_reducible repeat (first | refine blk_drewN ?_ _ | refine blk_drew ?_ | refine blk_alloc ?_ _)); exact BK147.out⟩, ⟨by repeat (first | (with_reducible first | exact HB.out | apply below_alloc | apply pw_below_drewN | apply below_drew1 | refine below_set ?_ GE146.out | refine below_set ?_ GE147.out) | exact HB.out)⟩⟩
                          · replace c50 := Bool.eq_false_iff.mpr c50
                            subst c50
                            have H1 : (spec_SySame.j3 kj38 false a0_0 a0_1 l0_2 a0_3 a0_4 a0_5 a0_6 l0_7 a1_0 a1_1 l1_2 a1_3 a1_4 a1_5 a1_6 l1_7) = some r := by rw [if_neg (show ¬ (false = true) by decide)] at H; exact H
                            clear H
                            have H := H1
                            clear H1
                            have H' := Aside0.mk H
                            clear H
                            have hnb64 := NB146_147.out
                            have hnc64 := NB147_146.out
                            have hcz65_0 : wc.cell? ⟨gb146, 0, none⟩ = some (.int .i64 a0_0) := (blk_cell BK146.out 0).trans rfl
                            have hcz65_1 : wc.cell? ⟨gb146, 1, none⟩ = some (.int .i64 a0_1) := (blk_cell BK146.out 1).trans rfl
                            have hcz65_2 : wc.cell? ⟨gb146, 2, none⟩ = some (.slice A0_2 l0_2.length c0_2) := (blk_cell BK146.out 2).trans rfl
                            have hcz65_3 : wc.cell? ⟨gb146, 3, none⟩ = some (.int .i64 a0_3) := (blk_cell BK146.out 3).trans rfl
                            have hcz65_4 : wc.cell? ⟨gb146, 4, none⟩ = some (.int .i64 a0_4) := (blk_cell BK146.out 4).trans rfl
                            have hcz65_5 : wc.cell? ⟨gb146, 5, none⟩ = some (.int .i64 a0_5) := (blk_cell BK146.out 5).trans rfl
                            have hcz65_6 : wc.cell? ⟨gb146, 6, none⟩ = some (.string a0_6) := (blk_cell BK146.out 6).trans rfl
                            have hcz65_7 : wc.cell? ⟨gb146, 7, none⟩ = some (.slice A0_7 l0_7.length c0_7) := (blk_cell BK146.out 7).trans rfl
                            have hfz65_0 := blk_frozen BK146.out 0
                            have hfz65_1 := blk_frozen BK146.out 1
                            have hfz65_2 := blk_frozen BK146.out 2
                            have hfz65_3 := blk_frozen BK146.out 3
                            have hfz65_4 := blk_frozen BK146.out 4
                            have hfz65_5 := blk_frozen BK146.out 5
                            have hfz65_6 := blk_frozen BK146.out 6
                            have hfz65_7 := blk_frozen BK146.out 7
                            have hcz66_0 : wc.cell? ⟨gb147, 0, none⟩ = some (.int .i64 a1_0) := (blk_cell BK147.out 0).trans rfl
                            have hcz66_1 : wc.cell? ⟨gb147, 1, none⟩ = some (.int .i64 a1_1) := (blk_cell BK147.out 1).trans rfl
                            have hcz66_2 : wc.cell? ⟨gb147, 2, none⟩ = some (.slice A1_2 l1_2.length c1_2) := (blk_cell BK147.out 2).trans rfl
                            have hcz66_3 : wc.cell? ⟨gb147, 3, none⟩ = some (.int .i64 a1_3) := (blk_cell BK147.out 3).trans rfl
                            have hcz66_4 : wc.cell? ⟨gb147, 4, none⟩ = some (.int .i64 a1_4) := (blk_cell BK147.out 4).trans rfl
                            have hcz66_5 : wc.cell? ⟨gb147, 5, none⟩ = some (.int .i64 a1_5) := (blk_cell BK147.out 5).trans rfl
                            have hcz66_6 : wc.cell? ⟨gb147, 6, none⟩ = some (.string a1_6) := (blk_cell BK147.out 6).trans rfl
                            have hcz66_7 : wc.cell? ⟨gb147, 7, none⟩ = some (.slice A1_7 l1_7.length c1_7) := (blk_cell BK147.out 7).trans rfl
                            have hfz66_0 := blk_frozen BK147.out 0
                            have hfz66_1 := blk_frozen BK147.out 1
                            have hfz66_2 := blk_frozen BK147.out 2
                            have hfz66_3 := blk_frozen BK147.out 3
                            have hfz66_4 := blk_frozen BK147.out 4
                            have hfz66_5 := blk_frozen BK147.out 5
                            have hfz66_6 := blk_frozen BK147.out 6
                            have hfz66_7 := blk_frozen BK147.out 7
                            go_wp2_with (first | ((with_reducible refine gate_callee (f := 33) rfl ?_); refine goesL_ (some 52) rfl rfl Try.func33 (by kernel_rfl) rfl #[.agg #[.int .i64 a0_0, .int .i64 a0_1, .slice A0_2 l0_2.length c0_2, .int .i64 a0_3, .int .i64 a0_4, .int .i64 a0_5, .string a0_6, .slice A0_7 l0_7.length c0_7], .agg #[.int .i64 a1_0, .int .i64 a1_1, .slice A1_2 l1_2.length c1_2, .int .i64 a1_3, .int .i64 a1_4, .int .i64 a1_5, .string a1_6, .slice A1_7 l1_7.length c1_7], .int .i64 32] rfl (by (try simp only [List.map_toArray, List.map_cons, List.map_nil]); first | done | rfl | (simp only [List.length_drop, List.length_take]; rfl)) ?_; (with_reducible refine (spec_syBits.calls a0_0 a0_1 _ _ l0_2 a0_3 a0_4 a0_5 a0_6 _ _ l0_7 a1_0 a1_1 _ _ l1_2 a1_3 a1_4 a1_5 a1_6 _ _ l1_7 32 false _ ?side1 ?side2 ?side3 ?side4 ?side5 ?side6 ?side7 ?side8 A49.out).mono ?_); (case side1 => repeat (first | exact (Kd.C_below HR0_2.out HB.out) | (with_reducible refine Kd.C_alloc ?_ _) | (with_reducible refine Kd.C_drewN ?_ _) | (with_reducible refine Kd.C_drew ?_))); (case side2 => exact HC0_2.out); (case side3 => repeat (first | exact (Kd.C_below HR0_7.out HB.out) | (with_reducible refine Kd.C_alloc ?_ _) | (with_reducible refine Kd.C_drewN ?_ _) | (with_reducible refine Kd.C_drew ?_))); (case side4 => exact HC0_7.out); (case side5 => repeat (first | exact (Kd.C_below HR1_2.out HB.out) | (with_reducible refine Kd.C_alloc ?_ _) | (with_reducible refine Kd.C_drewN ?_ _) | (with_reducible refine Kd.C_drew ?_))); (case side6 => exact HC1_2.out); (case side7 => repeat (first | exact (Kd.C_below HR1_7.out HB.out) | (with_reducible refine Kd.C_alloc ?_ _) | (with_reducible refine Kd.C_drewN ?_ _) | (with_reducible refine Kd.C_drew ?_))); (case side8 => exact HC1_7.out); rintro e w67 ⟨rfl, hb⟩; refine ⟨_, rfl, ?_⟩; have n0_ := Aside0.mk (blk_below (g := gb146) (o := .cells #[.int .i64 a0_0, .int .i64 a0_1, .slice A0_2 l0_2.length c0_2, .int .i64 a0_3, .int .i64 a0_4, .int .i64 a0_5, .string a0_6, .slice A0_7 l0_7.length c0_7] 35 (0, 0)) (by (with_reducible repeat (first | refine blk_drewN ?_ _ | refine blk_drew ?_ | refine blk_alloc ?_ _)); exact BK146.out) hb); have n1_ := Aside0.mk (blk_below (g := gb147) (o := .cells #[.int .i64 a1_0, .int .i64 a1_1, .slice A1_2 l1_2.length c1_2, .int .i64 a1_3, .int .i64 a1_4, .int .i64 a1_5, .string a1_6, .slice A1_7 l1_7.length c1_7] 35 (0, 0)) (by (with_reducible repeat (first | refine blk_drewN ?_ _ | refine blk_drew ?_ | refine blk_alloc ?_ _)); exact BK147.out) hb); have n2_ := Aside0.mk (below_step (by repeat (first | (with_reducible first | exact HB.out | apply below_alloc | apply pw_below_drewN | apply below_drew1 | refine below_set ?_ GE146.out | refine below_set ?_ GE147.out) | exact HB.out)) hb); clear BK146; clear BK147; clear HB; have BK146 := n0_; have BK147 := n1_; have HB := n2_; clear n0_ n1_ n2_; (try clear hb); (try clear hb2); (try clear hk); (try clear hi)))
                            go_meet
                            case rel => exact ⟨_, (false), (by first | rfl | (simp; done) | (simp [*]; done)), H', ⟨by have := HJ2.out; have := HJ22.out; have := HJ38.out; first | omega | exact Nat.le_refl _⟩, ⟨by (with_reducible repeat (first | refine blk_drewN ?_ _ | refine blk_drew ?_ | refine blk_alloc ?_ _)); exact BK146.out⟩, ⟨by (with_reducible repeat (first | refine blk_drewN ?_ _ | refine blk_drew ?_ | refine blk_alloc ?_ _)); exact BK147.out⟩, ⟨by repeat (first | (with_reducible first | exact HB.out | apply below_alloc | apply pw_below_drewN | apply below_drew1 | refine below_set ?_ GE146.out | refine below_set ?_ GE147.out) | exact HB.out)⟩⟩
                        · rw [if_neg c48] at H
                          have c48b0 : (a0_0 == 17) = false := beq_eq_false_iff_ne.mpr c48
                          have c48b1 : (a0_0 != 17) = true := bne_iff_ne.mpr c48
                          by_cases c68 : a0_0 = 13
                          · rw [if_pos c68] at H
                            have c68b0 : (a0_0 == 13) = true := beq_iff_eq.mpr c68
                            have c68b1 : (a0_0 != 13) = false := bne_eq_false_iff_eq.mpr c68
                            clear c68
                            by_cases c69 : a0_5 = a1_5
                            · rw [if_pos c69] at H
                              have c69b0 : (a0_5 == a1_5) = true := beq_iff_eq.mpr c69
                              have c69b1 : (a0_5 != a1_5) = false := bne_eq_false_iff_eq.mpr c69
                              clear c69
                              have H' := Aside0.mk H
                              clear H
                              have hnb70 := NB146_147.out
                              have hnc70 := NB147_146.out
                              have hcz71_0 : wc.cell? ⟨gb146, 0, none⟩ = some (.int .i64 a0_0) := (blk_cell BK146.out 0).trans rfl
                              have hcz71_1 : wc.cell? ⟨gb146, 1, none⟩ = some (.int .i64 a0_1) := (blk_cell BK146.out 1).trans rfl
                              have hcz71_2 : wc.cell? ⟨gb146, 2, none⟩ = some (.slice A0_2 l0_2.length c0_2) := (blk_cell BK146.out 2).trans rfl
                              have hcz71_3 : wc.cell? ⟨gb146, 3, none⟩ = some (.int .i64 a0_3) := (blk_cell BK146.out 3).trans rfl
                              have hcz71_4 : wc.cell? ⟨gb146, 4, none⟩ = some (.int .i64 a0_4) := (blk_cell BK146.out 4).trans rfl
                              have hcz71_5 : wc.cell? ⟨gb146, 5, none⟩ = some (.int .i64 a0_5) := (blk_cell BK146.out 5).trans rfl
                              have hcz71_6 : wc.cell? ⟨gb146, 6, none⟩ = some (.string a0_6) := (blk_cell BK146.out 6).trans rfl
                              have hcz71_7 : wc.cell? ⟨gb146, 7, none⟩ = some (.slice A0_7 l0_7.length c0_7) := (blk_cell BK146.out 7).trans rfl
                              have hfz71_0 := blk_frozen BK146.out 0
                              have hfz71_1 := blk_frozen BK146.out 1
                              have hfz71_2 := blk_frozen BK146.out 2
                              have hfz71_3 := blk_frozen BK146.out 3
                              have hfz71_4 := blk_frozen BK146.out 4
                              have hfz71_5 := blk_frozen BK146.out 5
                              have hfz71_6 := blk_frozen BK146.out 6
                              have hfz71_7 := blk_frozen BK146.out 7
                              have hcz72_0 : wc.cell? ⟨gb147, 0, none⟩ = some (.int .i64 a1_0) := (blk_cell BK147.out 0).trans rfl
                              have hcz72_1 : wc.cell? ⟨gb147, 1, none⟩ = some (.int .i64 a1_1) := (blk_cell BK147.out 1).trans rfl
                              have hcz72_2 : wc.cell? ⟨gb147, 2, none⟩ = some (.slice A1_2 l1_2.length c1_2) := (blk_cell BK147.out 2).trans rfl
                              have hcz72_3 : wc.cell? ⟨gb147, 3, none⟩ = some (.int .i64 a1_3) := (blk_cell BK147.out 3).trans rfl
                              have hcz72_4 : wc.cell? ⟨gb147, 4, none⟩ = some (.int .i64 a1_4) := (blk_cell BK147.out 4).trans rfl
                              have hcz72_5 : wc.cell? ⟨gb147, 5, none⟩ = some (.int .i64 a1_5) := (blk_cell BK147.out 5).trans rfl
                              have hcz72_6 : wc.cell? ⟨gb147, 6, none⟩ = some (.string a1_6) := (blk_cell BK147.out 6).trans rfl
                              have hcz72_7 : wc.cell? ⟨gb147, 7, none⟩ = some (.slice A1_7 l1_7.length c1_7) := (blk_cell BK147.out 7).trans rfl
                              have hfz72_0 := blk_frozen BK147.out 0
                              have hfz72_1 := blk_frozen BK147.out 1
                              have hfz72_2 := blk_frozen BK147.out 2
                              have hfz72_3 := blk_frozen BK147.out 3
                              have hfz72_4 := blk_frozen BK147.out 4
                              have hfz72_5 := blk_frozen BK147.out 5
                              have hfz72_6 := blk_frozen BK147.out 6
                              have hfz72_7 := blk_frozen BK147.out 7
                              go_wp2
                              go_meet
                              case rel => exact ⟨_, ((a0_6.toList == a1_6.toList)), (by first | rfl | (simp; done) | (simp [*]; done)), H', ⟨by have := HJ2.out; have := HJ22.out; have := HJ38.out; first | omega | exact Nat.le_refl _⟩, ⟨by (with_reducible repeat (first | refine blk_drewN ?_ _ | refine blk_drew ?_ | refine blk_alloc ?_ _)); exact BK146.out⟩, ⟨by (with_reducible repeat (first | refine blk_drewN ?_ _ | refine blk_drew ?_ | refine blk_alloc ?_ _)); exact BK147.out⟩, ⟨by repeat (first | (with_reducible first | exact HB.out | apply below_alloc | apply pw_below_drewN | apply below_drew1 | refine below_set ?_ GE146.out | refine below_set ?_ GE147.out) | exact HB.out)⟩⟩
                            · rw [if_neg c69] at H
                              have c69b0 : (a0_5 == a1_5) = false := beq_eq_false_iff_ne.mpr c69
                              have c69b1 : (a0_5 != a1_5) = true := bne_iff_ne.mpr c69
                              have H' := Aside0.mk H
                              clear H
                              have hnb73 := NB146_147.out
                              have hnc73 := NB147_146.out
                              have hcz74_0 : wc.cell? ⟨gb146, 0, none⟩ = some (.int .i64 a0_0) := (blk_cell BK146.out 0).trans rfl
                              have hcz74_1 : wc.cell? ⟨gb146, 1, none⟩ = some (.int .i64 a0_1) := (blk_cell BK146.out 1).trans rfl
                              have hcz74_2 : wc.cell? ⟨gb146, 2, none⟩ = some (.slice A0_2 l0_2.length c0_2) := (blk_cell BK146.out 2).trans rfl
                              have hcz74_3 : wc.cell? ⟨gb146, 3, none⟩ = some (.int .i64 a0_3) := (blk_cell BK146.out 3).trans rfl
                              have hcz74_4 : wc.cell? ⟨gb146, 4, none⟩ = some (.int .i64 a0_4) := (blk_cell BK146.out 4).trans rfl
                              have hcz74_5 : wc.cell? ⟨gb146, 5, none⟩ = some (.int .i64 a0_5) := (blk_cell BK146.out 5).trans rfl
                              have hcz74_6 : wc.cell? ⟨gb146, 6, none⟩ = some (.string a0_6) := (blk_cell BK146.out 6).trans rfl
                              have hcz74_7 : wc.cell? ⟨gb146, 7, none⟩ = some (.slice A0_7 l0_7.length c0_7) := (blk_cell BK146.out 7).trans rfl
                              have hfz74_0 := blk_frozen BK146.out 0
                              have hfz74_1 := blk_frozen BK146.out 1
                              have hfz74_2 := blk_frozen BK146.out 2
                              have hfz74_3 := blk_frozen BK146.out 3
                              have hfz74_4 := blk_frozen BK146.out 4
                              have hfz74_5 := blk_frozen BK146.out 5
                              have hfz74_6 := blk_frozen BK146.out 6
                              have hfz74_7 := blk_frozen BK146.out 7
                              have hcz75_0 : wc.cell? ⟨gb147, 0, none⟩ = some (.int .i64 a1_0) := (blk_cell BK147.out 0).trans rfl
                              have hcz75_1 : wc.cell? ⟨gb147, 1, none⟩ = some (.int .i64 a1_1) := (blk_cell BK147.out 1).trans rfl
                              have hcz75_2 : wc.cell? ⟨gb147, 2, none⟩ = some (.slice A1_2 l1_2.length c1_2) := (blk_cell BK147.out 2).trans rfl
                              have hcz75_3 : wc.cell? ⟨gb147, 3, none⟩ = some (.int .i64 a1_3) := (blk_cell BK147.out 3).trans rfl
                              have hcz75_4 : wc.cell? ⟨gb147, 4, none⟩ = some (.int .i64 a1_4) := (blk_cell BK147.out 4).trans rfl
                              have hcz75_5 : wc.cell? ⟨gb147, 5, none⟩ = some (.int .i64 a1_5) := (blk_cell BK147.out 5).trans rfl
                              have hcz75_6 : wc.cell? ⟨gb147, 6, none⟩ = some (.string a1_6) := (blk_cell BK147.out 6).trans rfl
                              have hcz75_7 : wc.cell? ⟨gb147, 7, none⟩ = some (.slice A1_7 l1_7.length c1_7) := (blk_cell BK147.out 7).trans rfl
                              have hfz75_0 := blk_frozen BK147.out 0
                              have hfz75_1 := blk_frozen BK147.out 1
                              have hfz75_2 := blk_frozen BK147.out 2
                              have hfz75_3 := blk_frozen BK147.out 3
                              have hfz75_4 := blk_frozen BK147.out 4
                              have hfz75_5 := blk_frozen BK147.out 5
                              have hfz75_6 := blk_frozen BK147.out 6
                              have hfz75_7 := blk_frozen BK147.out 7
                              go_wp2
                              go_meet
                              case rel => exact ⟨_, (false), (by first | rfl | (simp; done) | (simp [*]; done)), H', ⟨by have := HJ2.out; have := HJ22.out; have := HJ38.out; first | omega | exact Nat.le_refl _⟩, ⟨by (with_reducible repeat (first | refine blk_drewN ?_ _ | refine blk_drew ?_ | refine blk_alloc ?_ _)); exact BK146.out⟩, ⟨by (with_reducible repeat (first | refine blk_drewN ?_ _ | refine blk_drew ?_ | refine blk_alloc ?_ _)); exact BK147.out⟩, ⟨by repeat (first | (with_reducible first | exact HB.out | apply below_alloc | apply pw_below_drewN | apply below_drew1 | refine below_set ?_ GE146.out | refine below_set ?_ GE147.out) | exact HB.out)⟩⟩
                          · rw [if_neg c68] at H
                            have c68b0 : (a0_0 == 13) = false := beq_eq_false_iff_ne.mpr c68
                            have c68b1 : (a0_0 != 13) = true := bne_iff_ne.mpr c68
                            have H' := Aside0.mk H
                            clear H
                            go_wp2
                            go_meet
                            case rel => exact ⟨_, (true), (by first | rfl | (simp; done) | (simp [*]; done)), H', ⟨by have := HJ2.out; have := HJ22.out; have := HJ38.out; first | omega | exact Nat.le_refl _⟩, ⟨by (with_reducible repeat (first | refine blk_drewN ?_ _ | refine blk_drew ?_ | refine blk_alloc ?_ _)); exact BK146.out⟩, ⟨by (with_reducible repeat (first | refine blk_drewN ?_ _ | refine blk_drew ?_ | refine blk_alloc ?_ _)); exact BK147.out⟩, ⟨by repeat (first | (with_reducible first | exact HB.out | apply below_alloc | apply pw_below_drewN | apply below_drew1 | refine below_set ?_ GE146.out | refine below_set ?_ GE147.out) | exact HB.out)⟩⟩
        case rest =>
          clear HC14
          try clear c1
          try clear c2
          try clear p2
          try clear c3
          try clear c4
          try clear c5
          try clear c6
          try clear c6b0
          try clear c6b1
          try clear c7
          try clear c10
          try clear c13
          try clear c15
          try clear c17
          try clear c17b0
          try clear c17b1
          try clear c19
          try clear c21
          try clear c24
          try clear c24b0
          try clear c24b1
          try clear c25
          try clear c27
          try clear c29
          try clear c33
          try clear c35
          try clear c40
          try clear c40b0
          try clear c40b1
          try clear c41
          try clear c41b0
          try clear c41b1
          try clear c42
          try clear c44
          try clear c48
          try clear c48b0
          try clear c48b1
          try clear c50
          try clear c51
          try clear c51b0
          try clear c51b1
          try clear c52
          try clear c58
          try clear c64
          try clear c68
          try clear c68b0
          try clear c68b1
          try clear c69
          try clear c69b0
          try clear c69b1
          try clear c70
          try clear c73
          try clear hcz11_0
          try clear hcz11_1
          try clear hcz11_2
          try clear hcz11_3
          try clear hcz11_4
          try clear hcz11_5
          try clear hcz11_6
          try clear hcz11_7
          try clear hcz12_0
          try clear hcz12_1
          try clear hcz12_2
          try clear hcz12_3
          try clear hcz12_4
          try clear hcz12_5
          try clear hcz12_6
          try clear hcz12_7
          try clear hcz16_0
          try clear hcz16_1
          try clear hcz16_2
          try clear hcz16_3
          try clear hcz16_4
          try clear hcz16_5
          try clear hcz16_6
          try clear hcz16_7
          try clear hcz20_0
          try clear hcz20_1
          try clear hcz20_2
          try clear hcz20_3
          try clear hcz20_4
          try clear hcz20_5
          try clear hcz20_6
          try clear hcz20_7
          try clear hcz21_0
          try clear hcz21_1
          try clear hcz21_2
          try clear hcz21_3
          try clear hcz21_4
          try clear hcz21_5
          try clear hcz21_6
          try clear hcz21_7
          try clear hcz30_0
          try clear hcz30_1
          try clear hcz30_2
          try clear hcz30_3
          try clear hcz30_4
          try clear hcz30_5
          try clear hcz30_6
          try clear hcz30_7
          try clear hcz31_0
          try clear hcz31_1
          try clear hcz31_2
          try clear hcz31_3
          try clear hcz31_4
          try clear hcz31_5
          try clear hcz31_6
          try clear hcz31_7
          try clear hcz33_0
          try clear hcz33_1
          try clear hcz33_2
          try clear hcz33_3
          try clear hcz33_4
          try clear hcz33_5
          try clear hcz33_6
          try clear hcz33_7
          try clear hcz34_0
          try clear hcz34_1
          try clear hcz34_2
          try clear hcz34_3
          try clear hcz34_4
          try clear hcz34_5
          try clear hcz34_6
          try clear hcz34_7
          try clear hcz36_0
          try clear hcz36_1
          try clear hcz36_2
          try clear hcz36_3
          try clear hcz36_4
          try clear hcz36_5
          try clear hcz36_6
          try clear hcz36_7
          try clear hcz37_0
          try clear hcz37_1
          try clear hcz37_2
          try clear hcz37_3
          try clear hcz37_4
          try clear hcz37_5
          try clear hcz37_6
          try clear hcz37_7
          try clear hcz45_0
          try clear hcz45_1
          try clear hcz45_2
          try clear hcz45_3
          try clear hcz45_4
          try clear hcz45_5
          try clear hcz45_6
          try clear hcz45_7
          try clear hcz46_0
          try clear hcz46_1
          try clear hcz46_2
          try clear hcz46_3
          try clear hcz46_4
          try clear hcz46_5
          try clear hcz46_6
          try clear hcz46_7
          try clear hcz53_0
          try clear hcz53_1
          try clear hcz53_2
          try clear hcz53_3
          try clear hcz53_4
          try clear hcz53_5
          try clear hcz53_6
          try clear hcz53_7
          try clear hcz54_0
          try clear hcz54_1
          try clear hcz54_2
          try clear hcz54_3
          try clear hcz54_4
          try clear hcz54_5
          try clear hcz54_6
          try clear hcz54_7
          try clear hcz56_0
          try clear hcz56_1
          try clear hcz56_2
          try clear hcz56_3
          try clear hcz56_4
          try clear hcz56_5
          try clear hcz56_6
          try clear hcz56_7
          try clear hcz57_0
          try clear hcz57_1
          try clear hcz57_2
          try clear hcz57_3
          try clear hcz57_4
          try clear hcz57_5
          try clear hcz57_6
          try clear hcz57_7
          try clear hcz59_0
          try clear hcz59_1
          try clear hcz59_2
          try clear hcz59_3
          try clear hcz59_4
          try clear hcz59_5
          try clear hcz59_6
          try clear hcz59_7
          try clear hcz60_0
          try clear hcz60_1
          try clear hcz60_2
          try clear hcz60_3
          try clear hcz60_4
          try clear hcz60_5
          try clear hcz60_6
          try clear hcz60_7
          try clear hcz62_0
          try clear hcz62_1
          try clear hcz62_2
          try clear hcz62_3
          try clear hcz62_4
          try clear hcz62_5
          try clear hcz62_6
          try clear hcz62_7
          try clear hcz63_0
          try clear hcz63_1
          try clear hcz63_2
          try clear hcz63_3
          try clear hcz63_4
          try clear hcz63_5
          try clear hcz63_6
          try clear hcz63_7
          try clear hcz65_0
          try clear hcz65_1
          try clear hcz65_2
          try clear hcz65_3
          try clear hcz65_4
          try clear hcz65_5
          try clear hcz65_6
          try clear hcz65_7
          try clear hcz66_0
          try clear hcz66_1
          try clear hcz66_2
          try clear hcz66_3
          try clear hcz66_4
          try clear hcz66_5
          try clear hcz66_6
          try clear hcz66_7
          try clear hcz71_0
          try clear hcz71_1
          try clear hcz71_2
          try clear hcz71_3
          try clear hcz71_4
          try clear hcz71_5
          try clear hcz71_6
          try clear hcz71_7
          try clear hcz72_0
          try clear hcz72_1
          try clear hcz72_2
          try clear hcz72_3
          try clear hcz72_4
          try clear hcz72_5
          try clear hcz72_6
          try clear hcz72_7
          try clear hcz74_0
          try clear hcz74_1
          try clear hcz74_2
          try clear hcz74_3
          try clear hcz74_4
          try clear hcz74_5
          try clear hcz74_6
          try clear hcz74_7
          try clear hcz75_0
          try clear hcz75_1
          try clear hcz75_2
          try clear hcz75_3
          try clear hcz75_4
          try clear hcz75_5
          try clear hcz75_6
          try clear hcz75_7
          try clear hcz8_0
          try clear hcz8_1
          try clear hcz8_2
          try clear hcz8_3
          try clear hcz8_4
          try clear hcz8_5
          try clear hcz8_6
          try clear hcz8_7
          try clear hcz9_0
          try clear hcz9_1
          try clear hcz9_2
          try clear hcz9_3
          try clear hcz9_4
          try clear hcz9_5
          try clear hcz9_6
          try clear hcz9_7
          try clear hfz11_0
          try clear hfz11_1
          try clear hfz11_2
          try clear hfz11_3
          try clear hfz11_4
          try clear hfz11_5
          try clear hfz11_6
          try clear hfz11_7
          try clear hfz12_0
          try clear hfz12_1
          try clear hfz12_2
          try clear hfz12_3
          try clear hfz12_4
          try clear hfz12_5
          try clear hfz12_6
          try clear hfz12_7
          try clear hfz16_0
          try clear hfz16_1
          try clear hfz16_2
          try clear hfz16_3
          try clear hfz16_4
          try clear hfz16_5
          try clear hfz16_6
          try clear hfz16_7
          try clear hfz20_0
          try clear hfz20_1
          try clear hfz20_2
          try clear hfz20_3
          try clear hfz20_4
          try clear hfz20_5
          try clear hfz20_6
          try clear hfz20_7
          try clear hfz21_0
          try clear hfz21_1
          try clear hfz21_2
          try clear hfz21_3
          try clear hfz21_4
          try clear hfz21_5
          try clear hfz21_6
          try clear hfz21_7
          try clear hfz30_0
          try clear hfz30_1
          try clear hfz30_2
          try clear hfz30_3
          try clear hfz30_4
          try clear hfz30_5
          try clear hfz30_6
          try clear hfz30_7
          try clear hfz31_0
          try clear hfz31_1
          try clear hfz31_2
          try clear hfz31_3
          try clear hfz31_4
          try clear hfz31_5
          try clear hfz31_6
          try clear hfz31_7
          try clear hfz33_0
          try clear hfz33_1
          try clear hfz33_2
          try clear hfz33_3
          try clear hfz33_4
          try clear hfz33_5
          try clear hfz33_6
          try clear hfz33_7
          try clear hfz34_0
          try clear hfz34_1
          try clear hfz34_2
          try clear hfz34_3
          try clear hfz34_4
          try clear hfz34_5
          try clear hfz34_6
          try clear hfz34_7
          try clear hfz36_0
          try clear hfz36_1
          try clear hfz36_2
          try clear hfz36_3
          try clear hfz36_4
          try clear hfz36_5
          try clear hfz36_6
          try clear hfz36_7
          try clear hfz37_0
          try clear hfz37_1
          try clear hfz37_2
          try clear hfz37_3
          try clear hfz37_4
          try clear hfz37_5
          try clear hfz37_6
          try clear hfz37_7
          try clear hfz45_0
          try clear hfz45_1
          try clear hfz45_2
          try clear hfz45_3
          try clear hfz45_4
          try clear hfz45_5
          try clear hfz45_6
          try clear hfz45_7
          try clear hfz46_0
          try clear hfz46_1
          try clear hfz46_2
          try clear hfz46_3
          try clear hfz46_4
          try clear hfz46_5
          try clear hfz46_6
          try clear hfz46_7
          try clear hfz53_0
          try clear hfz53_1
          try clear hfz53_2
          try clear hfz53_3
          try clear hfz53_4
          try clear hfz53_5
          try clear hfz53_6
          try clear hfz53_7
          try clear hfz54_0
          try clear hfz54_1
          try clear hfz54_2
          try clear hfz54_3
          try clear hfz54_4
          try clear hfz54_5
          try clear hfz54_6
          try clear hfz54_7
          try clear hfz56_0
          try clear hfz56_1
          try clear hfz56_2
          try clear hfz56_3
          try clear hfz56_4
          try clear hfz56_5
          try clear hfz56_6
          try clear hfz56_7
          try clear hfz57_0
          try clear hfz57_1
          try clear hfz57_2
          try clear hfz57_3
          try clear hfz57_4
          try clear hfz57_5
          try clear hfz57_6
          try clear hfz57_7
          try clear hfz59_0
          try clear hfz59_1
          try clear hfz59_2
          try clear hfz59_3
          try clear hfz59_4
          try clear hfz59_5
          try clear hfz59_6
          try clear hfz59_7
          try clear hfz60_0
          try clear hfz60_1
          try clear hfz60_2
          try clear hfz60_3
          try clear hfz60_4
          try clear hfz60_5
          try clear hfz60_6
          try clear hfz60_7
          try clear hfz62_0
          try clear hfz62_1
          try clear hfz62_2
          try clear hfz62_3
          try clear hfz62_4
          try clear hfz62_5
          try clear hfz62_6
          try clear hfz62_7
          try clear hfz63_0
          try clear hfz63_1
          try clear hfz63_2
          try clear hfz63_3
          try clear hfz63_4
          try clear hfz63_5
          try clear hfz63_6
          try clear hfz63_7
          try clear hfz65_0
          try clear hfz65_1
          try clear hfz65_2
          try clear hfz65_3
          try clear hfz65_4
          try clear hfz65_5
          try clear hfz65_6
          try clear hfz65_7
          try clear hfz66_0
          try clear hfz66_1
          try clear hfz66_2
          try clear hfz66_3
          try clear hfz66_4
          try clear hfz66_5
          try clear hfz66_6
          try clear hfz66_7
          try clear hfz71_0
          try clear hfz71_1
          try clear hfz71_2
          try clear hfz71_3
          try clear hfz71_4
          try clear hfz71_5
          try clear hfz71_6
          try clear hfz71_7
          try clear hfz72_0
          try clear hfz72_1
          try clear hfz72_2
          try clear hfz72_3
          try clear hfz72_4
          try clear hfz72_5
          try clear hfz72_6
          try clear hfz72_7
          try clear hfz74_0
          try clear hfz74_1
          try clear hfz74_2
          try clear hfz74_3
          try clear hfz74_4
          try clear hfz74_5
          try clear hfz74_6
          try clear hfz74_7
          try clear hfz75_0
          try clear hfz75_1
          try clear hfz75_2
          try clear hfz75_3
          try clear hfz75_4
          try clear hfz75_5
          try clear hfz75_6
          try clear hfz75_7
          try clear hfz8_0
          try clear hfz8_1
          try clear hfz8_2
          try clear hfz8_3
          try clear hfz8_4
          try clear hfz8_5
          try clear hfz8_6
          try clear hfz8_7
          try clear hfz9_0
          try clear hfz9_1
          try clear hfz9_2
          try clear hfz9_3
          try clear hfz9_4
          try clear hfz9_5
          try clear hfz9_6
          try clear hfz9_7
          try clear p2
          obtain ⟨kq, x5_13, rfl, HA, HJ13, BK146, BK147, HB⟩ := hcut
          cases kq with
          | zero => exact absurd HA.out (by simp [spec_SySame.j3])
          | succ kj13 =>
            have H := HA.out
            clear HA
            simp only [spec_SySame.j3] at H
            have H' := Aside0.mk H
            clear H
            go_wp2
            go_loopg [5, 6] kj13 (fun kq v5 v6 w' => ∃ (x5_3 : Bool) (x6_3 : Int), v5 = .bool x5_3 ∧ v6 = .int .i64 x6_3 ∧ Aside0 (spec_SySame.l0 kq x5_3 x6_3 a0_0 a0_1 l0_2 a0_3 a0_4 a0_5 a0_6 l0_7 a1_0 a1_1 l1_2 a1_3 a1_4 a1_5 a1_6 l1_7 = some r) ∧ Aside0 (kq ≤ kj13) ∧ Aside0 (w'.heap[gb146]? = some (.cells #[.int .i64 a0_0, .int .i64 a0_1, (.slice A0_2 l0_2.length c0_2), .int .i64 a0_3, .int .i64 a0_4, .int .i64 a0_5, .string a0_6, (.slice A0_7 l0_7.length c0_7)] 35 (0, 0))) ∧ Aside0 (w'.heap[gb147]? = some (.cells #[.int .i64 a1_0, .int .i64 a1_1, (.slice A1_2 l1_2.length c1_2), .int .i64 a1_3, .int .i64 a1_4, .int .i64 a1_5, .string a1_6, (.slice A1_7 l1_7.length c1_7)] 35 (0, 0))) ∧ Aside0 (Below w.heap.size w w'))
            case atStart => exact ⟨(x5_13), (0), (by first | rfl | (simp; done) | (simp [*]; done)), (by first | rfl | (simp; done) | (simp [*]; done)), H', ⟨Nat.le_refl _⟩, ⟨by (with_reducible repeat (first | refine blk_drewN ?_ _ | refine blk_drew ?_ | refine blk_alloc ?_ _)); exact BK146.out⟩, ⟨by (with_reducible repeat (first | refine blk_drewN ?_ _ | refine blk_drew ?_ | refine blk_alloc ?_ _)); exact BK147.out⟩, ⟨by repeat (first | (with_reducible first | exact HB.out | apply below_alloc | apply pw_below_drewN | apply below_drew1 | refine below_set ?_ GE146.out | refine below_set ?_ GE147.out) | exact HB.out)⟩⟩
            case round =>
              clear H'
              try clear c1
              try clear c2
              try clear p2
              try clear c3
              try clear c4
              try clear c5
              try clear c6
              try clear c6b0
              try clear c6b1
              try clear c7
              try clear c10
              try clear c13
              try clear c15
              try clear c17
              try clear c17b0
              try clear c17b1
              try clear c19
              try clear c21
              try clear c24
              try clear c24b0
              try clear c24b1
              try clear c25
              try clear c27
              try clear c29
              try clear c33
              try clear c35
              try clear c40
              try clear c40b0
              try clear c40b1
              try clear c41
              try clear c41b0
              try clear c41b1
              try clear c42
              try clear c44
              try clear c48
              try clear c48b0
              try clear c48b1
              try clear c50
              try clear c51
              try clear c51b0
              try clear c51b1
              try clear c52
              try clear c58
              try clear c64
              try clear c68
              try clear c68b0
              try clear c68b1
              try clear c69
              try clear c69b0
              try clear c69b1
              try clear c70
              try clear c73
              try clear hcz11_0
              try clear hcz11_1
              try clear hcz11_2
              try clear hcz11_3
              try clear hcz11_4
              try clear hcz11_5
              try clear hcz11_6
              try clear hcz11_7
              try clear hcz12_0
              try clear hcz12_1
              try clear hcz12_2
              try clear hcz12_3
              try clear hcz12_4
              try clear hcz12_5
              try clear hcz12_6
              try clear hcz12_7
              try clear hcz16_0
              try clear hcz16_1
              try clear hcz16_2
              try clear hcz16_3
              try clear hcz16_4
              try clear hcz16_5
              try clear hcz16_6
              try clear hcz16_7
              try clear hcz20_0
              try clear hcz20_1
              try clear hcz20_2
              try clear hcz20_3
              try clear hcz20_4
              try clear hcz20_5
              try clear hcz20_6
              try clear hcz20_7
              try clear hcz21_0
              try clear hcz21_1
              try clear hcz21_2
              try clear hcz21_3
              try clear hcz21_4
              try clear hcz21_5
              try clear hcz21_6
              try clear hcz21_7
              try clear hcz30_0
              try clear hcz30_1
              try clear hcz30_2
              try clear hcz30_3
              try clear hcz30_4
              try clear hcz30_5
              try clear hcz30_6
              try clear hcz30_7
              try clear hcz31_0
              try clear hcz31_1
              try clear hcz31_2
              try clear hcz31_3
              try clear hcz31_4
              try clear hcz31_5
              try clear hcz31_6
              try clear hcz31_7
              try clear hcz33_0
              try clear hcz33_1
              try clear hcz33_2
              try clear hcz33_3
              try clear hcz33_4
              try clear hcz33_5
              try clear hcz33_6
              try clear hcz33_7
              try clear hcz34_0
              try clear hcz34_1
              try clear hcz34_2
              try clear hcz34_3
              try clear hcz34_4
              try clear hcz34_5
              try clear hcz34_6
              try clear hcz34_7
              try clear hcz36_0
              try clear hcz36_1
              try clear hcz36_2
              try clear hcz36_3
              try clear hcz36_4
              try clear hcz36_5
              try clear hcz36_6
              try clear hcz36_7
              try clear hcz37_0
              try clear hcz37_1
              try clear hcz37_2
              try clear hcz37_3
              try clear hcz37_4
              try clear hcz37_5
              try clear hcz37_6
              try clear hcz37_7
              try clear hcz45_0
              try clear hcz45_1
              try clear hcz45_2
              try clear hcz45_3
              try clear hcz45_4
              try clear hcz45_5
              try clear hcz45_6
              try clear hcz45_7
              try clear hcz46_0
              try clear hcz46_1
              try clear hcz46_2
              try clear hcz46_3
              try clear hcz46_4
              try clear hcz46_5
              try clear hcz46_6
              try clear hcz46_7
              try clear hcz53_0
              try clear hcz53_1
              try clear hcz53_2
              try clear hcz53_3
              try clear hcz53_4
              try clear hcz53_5
              try clear hcz53_6
              try clear hcz53_7
              try clear hcz54_0
              try clear hcz54_1
              try clear hcz54_2
              try clear hcz54_3
              try clear hcz54_4
              try clear hcz54_5
              try clear hcz54_6
              try clear hcz54_7
              try clear hcz56_0
              try clear hcz56_1
              try clear hcz56_2
              try clear hcz56_3
              try clear hcz56_4
              try clear hcz56_5
              try clear hcz56_6
              try clear hcz56_7
              try clear hcz57_0
              try clear hcz57_1
              try clear hcz57_2
              try clear hcz57_3
              try clear hcz57_4
              try clear hcz57_5
              try clear hcz57_6
              try clear hcz57_7
              try clear hcz59_0
              try clear hcz59_1
              try clear hcz59_2
              try clear hcz59_3
              try clear hcz59_4
              try clear hcz59_5
              try clear hcz59_6
              try clear hcz59_7
              try clear hcz60_0
              try clear hcz60_1
              try clear hcz60_2
              try clear hcz60_3
              try clear hcz60_4
              try clear hcz60_5
              try clear hcz60_6
              try clear hcz60_7
              try clear hcz62_0
              try clear hcz62_1
              try clear hcz62_2
              try clear hcz62_3
              try clear hcz62_4
              try clear hcz62_5
              try clear hcz62_6
              try clear hcz62_7
              try clear hcz63_0
              try clear hcz63_1
              try clear hcz63_2
              try clear hcz63_3
              try clear hcz63_4
              try clear hcz63_5
              try clear hcz63_6
              try clear hcz63_7
              try clear hcz65_0
              try clear hcz65_1
              try clear hcz65_2
              try clear hcz65_3
              try clear hcz65_4
              try clear hcz65_5
              try clear hcz65_6
              try clear hcz65_7
              try clear hcz66_0
              try clear hcz66_1
              try clear hcz66_2
              try clear hcz66_3
              try clear hcz66_4
              try clear hcz66_5
              try clear hcz66_6
              try clear hcz66_7
              try clear hcz71_0
              try clear hcz71_1
              try clear hcz71_2
              try clear hcz71_3
              try clear hcz71_4
              try clear hcz71_5
              try clear hcz71_6
              try clear hcz71_7
              try clear hcz72_0
              try clear hcz72_1
              try clear hcz72_2
              try clear hcz72_3
              try clear hcz72_4
              try clear hcz72_5
              try clear hcz72_6
              try clear hcz72_7
              try clear hcz74_0
              try clear hcz74_1
              try clear hcz74_2
              try clear hcz74_3
              try clear hcz74_4
              try clear hcz74_5
              try clear hcz74_6
              try clear hcz74_7
              try clear hcz75_0
              try clear hcz75_1
              try clear hcz75_2
              try clear hcz75_3
              try clear hcz75_4
              try clear hcz75_5
              try clear hcz75_6
              try clear hcz75_7
              try clear hcz8_0
              try clear hcz8_1
              try clear hcz8_2
              try clear hcz8_3
              try clear hcz8_4
              try clear hcz8_5
              try clear hcz8_6
              try clear hcz8_7
              try clear hcz9_0
              try clear hcz9_1
              try clear hcz9_2
              try clear hcz9_3
              try clear hcz9_4
              try clear hcz9_5
              try clear hcz9_6
              try clear hcz9_7
              try clear hfz11_0
              try clear hfz11_1
              try clear hfz11_2
              try clear hfz11_3
              try clear hfz11_4
              try clear hfz11_5
              try clear hfz11_6
              try clear hfz11_7
              try clear hfz12_0
              try clear hfz12_1
              try clear hfz12_2
              try clear hfz12_3
              try clear hfz12_4
              try clear hfz12_5
              try clear hfz12_6
              try clear hfz12_7
              try clear hfz16_0
              try clear hfz16_1
              try clear hfz16_2
              try clear hfz16_3
              try clear hfz16_4
              try clear hfz16_5
              try clear hfz16_6
              try clear hfz16_7
              try clear hfz20_0
              try clear hfz20_1
              try clear hfz20_2
              try clear hfz20_3
              try clear hfz20_4
              try clear hfz20_5
              try clear hfz20_6
              try clear hfz20_7
              try clear hfz21_0
              try clear hfz21_1
              try clear hfz21_2
              try clear hfz21_3
              try clear hfz21_4
              try clear hfz21_5
              try clear hfz21_6
              try clear hfz21_7
              try clear hfz30_0
              try clear hfz30_1
              try clear hfz30_2
              try clear hfz30_3
              try clear hfz30_4
              try clear hfz30_5
              try clear hfz30_6
              try clear hfz30_7
              try clear hfz31_0
              try clear hfz31_1
              try clear hfz31_2
              try clear hfz31_3
              try clear hfz31_4
              try clear hfz31_5
              try clear hfz31_6
              try clear hfz31_7
              try clear hfz33_0
              try clear hfz33_1
              try clear hfz33_2
              try clear hfz33_3
              try clear hfz33_4
              try clear hfz33_5
              try clear hfz33_6
              try clear hfz33_7
              try clear hfz34_0
              try clear hfz34_1
              try clear hfz34_2
              try clear hfz34_3
              try clear hfz34_4
              try clear hfz34_5
              try clear hfz34_6
              try clear hfz34_7
              try clear hfz36_0
              try clear hfz36_1
              try clear hfz36_2
              try clear hfz36_3
              try clear hfz36_4
              try clear hfz36_5
              try clear hfz36_6
              try clear hfz36_7
              try clear hfz37_0
              try clear hfz37_1
              try clear hfz37_2
              try clear hfz37_3
              try clear hfz37_4
              try clear hfz37_5
              try clear hfz37_6
              try clear hfz37_7
              try clear hfz45_0
              try clear hfz45_1
              try clear hfz45_2
              try clear hfz45_3
              try clear hfz45_4
              try clear hfz45_5
              try clear hfz45_6
              try clear hfz45_7
              try clear hfz46_0
              try clear hfz46_1
              try clear hfz46_2
              try clear hfz46_3
              try clear hfz46_4
              try clear hfz46_5
              try clear hfz46_6
              try clear hfz46_7
              try clear hfz53_0
              try clear hfz53_1
              try clear hfz53_2
              try clear hfz53_3
              try clear hfz53_4
              try clear hfz53_5
              try clear hfz53_6
              try clear hfz53_7
              try clear hfz54_0
              try clear hfz54_1
              try clear hfz54_2
              try clear hfz54_3
              try clear hfz54_4
              try clear hfz54_5
              try clear hfz54_6
              try clear hfz54_7
              try clear hfz56_0
              try clear hfz56_1
              try clear hfz56_2
              try clear hfz56_3
              try clear hfz56_4
              try clear hfz56_5
              try clear hfz56_6
              try clear hfz56_7
              try clear hfz57_0
              try clear hfz57_1
              try clear hfz57_2
              try clear hfz57_3
              try clear hfz57_4
              try clear hfz57_5
              try clear hfz57_6
              try clear hfz57_7
              try clear hfz59_0
              try clear hfz59_1
              try clear hfz59_2
              try clear hfz59_3
              try clear hfz59_4
              try clear hfz59_5
              try clear hfz59_6
              try clear hfz59_7
              try clear hfz60_0
              try clear hfz60_1
              try clear hfz60_2
              try clear hfz60_3
              try clear hfz60_4
              try clear hfz60_5
              try clear hfz60_6
              try clear hfz60_7
              try clear hfz62_0
              try clear hfz62_1
              try clear hfz62_2
              try clear hfz62_3
              try clear hfz62_4
              try clear hfz62_5
              try clear hfz62_6
              try clear hfz62_7
              try clear hfz63_0
              try clear hfz63_1
              try clear hfz63_2
              try clear hfz63_3
              try clear hfz63_4
              try clear hfz63_5
              try clear hfz63_6
              try clear hfz63_7
              try clear hfz65_0
              try clear hfz65_1
              try clear hfz65_2
              try clear hfz65_3
              try clear hfz65_4
              try clear hfz65_5
              try clear hfz65_6
              try clear hfz65_7
              try clear hfz66_0
              try clear hfz66_1
              try clear hfz66_2
              try clear hfz66_3
              try clear hfz66_4
              try clear hfz66_5
              try clear hfz66_6
              try clear hfz66_7
              try clear hfz71_0
              try clear hfz71_1
              try clear hfz71_2
              try clear hfz71_3
              try clear hfz71_4
              try clear hfz71_5
              try clear hfz71_6
              try clear hfz71_7
              try clear hfz72_0
              try clear hfz72_1
              try clear hfz72_2
              try clear hfz72_3
              try clear hfz72_4
              try clear hfz72_5
              try clear hfz72_6
              try clear hfz72_7
              try clear hfz74_0
              try clear hfz74_1
              try clear hfz74_2
              try clear hfz74_3
              try clear hfz74_4
              try clear hfz74_5
              try clear hfz74_6
              try clear hfz74_7
              try clear hfz75_0
              try clear hfz75_1
              try clear hfz75_2
              try clear hfz75_3
              try clear hfz75_4
              try clear hfz75_5
              try clear hfz75_6
              try clear hfz75_7
              try clear hfz8_0
              try clear hfz8_1
              try clear hfz8_2
              try clear hfz8_3
              try clear hfz8_4
              try clear hfz8_5
              try clear hfz8_6
              try clear hfz8_7
              try clear hfz9_0
              try clear hfz9_1
              try clear hfz9_2
              try clear hfz9_3
              try clear hfz9_4
              try clear hfz9_5
              try clear hfz9_6
              try clear hfz9_7
              try clear p2
              obtain ⟨x5_3, x6_3, rfl, rfl, HA, HK3, BK146, BK147, HB⟩ := hrel
              cases gk with
              | zero => exact absurd HA.out (by simp [spec_SySame.l0])
              | succ k3 =>
                have H := HA.out
                clear HA
                simp only [spec_SySame.l0] at H
                by_cases c76 : x5_3 = true
                · subst c76
                  have H1 : (if x6_3 < (l0_7.length : Int) then (if 0 ≤ x6_3 then (if x6_3 < (l1_7.length : Int) then ((spec_SySame.f k3 ((rd_T35 l0_7 x6_3).f0) ((rd_T35 l0_7 x6_3).f1) ((rd_T35 l0_7 x6_3).f2) ((rd_T35 l0_7 x6_3).f3) ((rd_T35 l0_7 x6_3).f4) ((rd_T35 l0_7 x6_3).f5) ((rd_T35 l0_7 x6_3).f6) ((rd_T35 l0_7 x6_3).f7) ((rd_T35 l1_7 x6_3).f0) ((rd_T35 l1_7 x6_3).f1) ((rd_T35 l1_7 x6_3).f2) ((rd_T35 l1_7 x6_3).f3) ((rd_T35 l1_7 x6_3).f4) ((rd_T35 l1_7 x6_3).f5) ((rd_T35 l1_7 x6_3).f6) ((rd_T35 l1_7 x6_3).f7)).bind fun t155 => (spec_SySame.l0 k3 t155 (wrap64 (x6_3 + 1)) a0_0 a0_1 l0_2 a0_3 a0_4 a0_5 a0_6 l0_7 a1_0 a1_1 l1_2 a1_3 a1_4 a1_5 a1_6 l1_7)) else (none)) else (none)) else (some true)) = some r := by rw [if_pos rfl] at H; exact H
                  clear H
                  have H := H1
                  clear H1
                  by_cases c77 : x6_3 < (l0_7.length : Int)
                  · rw [if_pos c77] at H
                    have c77b0 : decide (x6_3 < (l0_7.length : Int)) = true := decide_eq_true c77
                    clear c77
                    by_cases c78 : 0 ≤ x6_3
                    · rw [if_pos c78] at H
                      have c78b0 : decide (0 ≤ x6_3) = true := decide_eq_true c78
                      clear c78
                      by_cases c79 : x6_3 < (l1_7.length : Int)
                      · rw [if_pos c79] at H
                        have c79b0 : decide (x6_3 < (l1_7.length : Int)) = true := decide_eq_true c79
                        clear c79
                        replace H := Option.bind_eq_some_iff.mp H
                        obtain ⟨t155, A800, H⟩ := H
                        replace H : (spec_SySame.l0 k3 t155 (wrap64 (x6_3 + 1)) a0_0 a0_1 l0_2 a0_3 a0_4 a0_5 a0_6 l0_7 a1_0 a1_1 l1_2 a1_3 a1_4 a1_5 a1_6 l1_7) = some r := H
                        have A80 := Aside0.mk A800
                        clear A800
                        have H' := Aside0.mk H
                        clear H
                        have hnb81 := NB146_147.out
                        have hnc81 := NB147_146.out
                        have hcz82_0 : wr.cell? ⟨gb146, 0, none⟩ = some (.int .i64 a0_0) := (blk_cell BK146.out 0).trans rfl
                        have hcz82_1 : wr.cell? ⟨gb146, 1, none⟩ = some (.int .i64 a0_1) := (blk_cell BK146.out 1).trans rfl
                        have hcz82_2 : wr.cell? ⟨gb146, 2, none⟩ = some (.slice A0_2 l0_2.length c0_2) := (blk_cell BK146.out 2).trans rfl
                        have hcz82_3 : wr.cell? ⟨gb146, 3, none⟩ = some (.int .i64 a0_3) := (blk_cell BK146.out 3).trans rfl
                        have hcz82_4 : wr.cell? ⟨gb146, 4, none⟩ = some (.int .i64 a0_4) := (blk_cell BK146.out 4).trans rfl
                        have hcz82_5 : wr.cell? ⟨gb146, 5, none⟩ = some (.int .i64 a0_5) := (blk_cell BK146.out 5).trans rfl
                        have hcz82_6 : wr.cell? ⟨gb146, 6, none⟩ = some (.string a0_6) := (blk_cell BK146.out 6).trans rfl
                        have hcz82_7 : wr.cell? ⟨gb146, 7, none⟩ = some (.slice A0_7 l0_7.length c0_7) := (blk_cell BK146.out 7).trans rfl
                        have hfz82_0 := blk_frozen BK146.out 0
                        have hfz82_1 := blk_frozen BK146.out 1
                        have hfz82_2 := blk_frozen BK146.out 2
                        have hfz82_3 := blk_frozen BK146.out 3
                        have hfz82_4 := blk_frozen BK146.out 4
                        have hfz82_5 := blk_frozen BK146.out 5
                        have hfz82_6 := blk_frozen BK146.out 6
                        have hfz82_7 := blk_frozen BK146.out 7
                        try go_wp2
                        have n0_ := Aside0.mk (blk_drew BK146.out)
                        have n1_ := Aside0.mk (blk_drew BK147.out)
                        have n2_ := Aside0.mk (below_drew1 HB.out)
                        clear BK146
                        clear BK147
                        clear HB
                        have BK146 := n0_
                        have BK147 := n1_
                        have HB := n2_
                        clear n0_ n1_ n2_
                        have p153 : 0 ≤ (x6_3 : Int) := of_decide_eq_true (by first | (with_reducible assumption) | assumption)
                        have q153 : x6_3 < (l0_7.length : Int) := of_decide_eq_true (by first | (with_reducible assumption) | assumption)
                        obtain ⟨ad153, A153_2, c153_2, A153_7, c153_7, e153, hx153_0, hx153_1, hx153_2, hx153_3, hx153_4, hx153_5, hx153_6, hx153_7, hl153_2, hi153_2, hl153_7, hi153_7⟩ := at_T35 HR0_7.out x6_3 p153 q153
                        have hw153_7 := hx153_7
                        have hw153_6 := hx153_6
                        have hw153_5 := hx153_5
                        have hw153_4 := hx153_4
                        have hw153_3 := hx153_3
                        have hw153_2 := hx153_2
                        have hw153_1 := hx153_1
                        have hw153_0 := hx153_0
                        cases e153
                        replace hx153_0 := (HB.out.cell (World.block_lt_of_cell? w _ hx153_0)).trans hx153_0
                        replace hx153_1 := (HB.out.cell (World.block_lt_of_cell? w _ hx153_1)).trans hx153_1
                        replace hx153_2 := (HB.out.cell (World.block_lt_of_cell? w _ hx153_2)).trans hx153_2
                        replace hx153_3 := (HB.out.cell (World.block_lt_of_cell? w _ hx153_3)).trans hx153_3
                        replace hx153_4 := (HB.out.cell (World.block_lt_of_cell? w _ hx153_4)).trans hx153_4
                        replace hx153_5 := (HB.out.cell (World.block_lt_of_cell? w _ hx153_5)).trans hx153_5
                        replace hx153_6 := (HB.out.cell (World.block_lt_of_cell? w _ hx153_6)).trans hx153_6
                        replace hx153_7 := (HB.out.cell (World.block_lt_of_cell? w _ hx153_7)).trans hx153_7
                        have HR153_2 := Aside0.mk hi153_2
                        have HC153_2 := Aside0.mk hl153_2
                        clear hi153_2 hl153_2
                        have HR153_7 := Aside0.mk hi153_7
                        have HC153_7 := Aside0.mk hl153_7
                        clear hi153_7 hl153_7
                        replace p153 := eq_true p153
                        replace q153 := eq_true q153
                        have p154 : 0 ≤ (x6_3 : Int) := of_decide_eq_true (by first | (with_reducible assumption) | assumption)
                        have q154 : x6_3 < (l1_7.length : Int) := of_decide_eq_true (by first | (with_reducible assumption) | assumption)
                        obtain ⟨ad154, A154_2, c154_2, A154_7, c154_7, e154, hx154_0, hx154_1, hx154_2, hx154_3, hx154_4, hx154_5, hx154_6, hx154_7, hl154_2, hi154_2, hl154_7, hi154_7⟩ := at_T35 HR1_7.out x6_3 p154 q154
                        have hw154_7 := hx154_7
                        have hw154_6 := hx154_6
                        have hw154_5 := hx154_5
                        have hw154_4 := hx154_4
                        have hw154_3 := hx154_3
                        have hw154_2 := hx154_2
                        have hw154_1 := hx154_1
                        have hw154_0 := hx154_0
                        cases e154
                        replace hx154_0 := (HB.out.cell (World.block_lt_of_cell? w _ hx154_0)).trans hx154_0
                        replace hx154_1 := (HB.out.cell (World.block_lt_of_cell? w _ hx154_1)).trans hx154_1
                        replace hx154_2 := (HB.out.cell (World.block_lt_of_cell? w _ hx154_2)).trans hx154_2
                        replace hx154_3 := (HB.out.cell (World.block_lt_of_cell? w _ hx154_3)).trans hx154_3
                        replace hx154_4 := (HB.out.cell (World.block_lt_of_cell? w _ hx154_4)).trans hx154_4
                        replace hx154_5 := (HB.out.cell (World.block_lt_of_cell? w _ hx154_5)).trans hx154_5
                        replace hx154_6 := (HB.out.cell (World.block_lt_of_cell? w _ hx154_6)).trans hx154_6
                        replace hx154_7 := (HB.out.cell (World.block_lt_of_cell? w _ hx154_7)).trans hx154_7
                        have HR154_2 := Aside0.mk hi154_2
                        have HC154_2 := Aside0.mk hl154_2
                        clear hi154_2 hl154_2
                        have HR154_7 := Aside0.mk hi154_7
                        have HC154_7 := Aside0.mk hl154_7
                        clear hi154_7 hl154_7
                        replace p154 := eq_true p154
                        replace q154 := eq_true q154
                        refine start_ (n := 12) (S := fun w' => w'.cell? ⟨gb146, 0, none⟩ = some (.int .i64 a0_0) ∧ w'.cell? ⟨gb146, 1, none⟩ = some (.int .i64 a0_1) ∧ w'.cell? ⟨gb146, 2, none⟩ = some (.slice A0_2 l0_2.length c0_2) ∧ w'.cell? ⟨gb146, 3, none⟩ = some (.int .i64 a0_3) ∧ w'.cell? ⟨gb146, 4, none⟩ = some (.int .i64 a0_4) ∧ w'.cell? ⟨gb146, 5, none⟩ = some (.int .i64 a0_5) ∧ w'.cell? ⟨gb146, 6, none⟩ = some (.string a0_6) ∧ w'.cell? ⟨gb146, 7, none⟩ = some (.slice (some ad153) l0_7.length c0_7) ∧ w'.cell? ⟨gb147, 0, none⟩ = some (.int .i64 a1_0) ∧ w'.cell? ⟨gb147, 1, none⟩ = some (.int .i64 a1_1) ∧ w'.cell? ⟨gb147, 2, none⟩ = some (.slice A1_2 l1_2.length c1_2) ∧ w'.cell? ⟨gb147, 3, none⟩ = some (.int .i64 a1_3) ∧ w'.cell? ⟨gb147, 4, none⟩ = some (.int .i64 a1_4) ∧ w'.cell? ⟨gb147, 5, none⟩ = some (.int .i64 a1_5) ∧ w'.cell? ⟨gb147, 6, none⟩ = some (.string a1_6) ∧ w'.cell? ⟨gb147, 7, none⟩ = some (.slice (some ad154) l1_7.length c1_7) ∧ w'.cell? (ad153.add ((x6_3).toNat * 8)) = some (.int .i64 ((rd_T35 l0_7 x6_3).f0)) ∧ w'.cell? ⟨(ad153.add ((x6_3).toNat * 8)).block, (ad153.add ((x6_3).toNat * 8)).off + 1, none⟩ = some (.int .i64 ((rd_T35 l0_7 x6_3).f1)) ∧ w'.cell? ⟨(ad153.add ((x6_3).toNat * 8)).block, (ad153.add ((x6_3).toNat * 8)).off + 2, none⟩ = some (.slice A153_2 ((rd_T35 l0_7 x6_3).f2).length c153_2) ∧ w'.cell? ⟨(ad153.add ((x6_3).toNat * 8)).block, (ad153.add ((x6_3).toNat * 8)).off + 3, none⟩ = some (.int .i64 ((rd_T35 l0_7 x6_3).f3)) ∧ w'.cell? ⟨(ad153.add ((x6_3).toNat * 8)).block, (ad153.add ((x6_3).toNat * 8)).off + 4, none⟩ = some (.int .i64 ((rd_T35 l0_7 x6_3).f4)) ∧ w'.cell? ⟨(ad153.add ((x6_3).toNat * 8)).block, (ad153.add ((x6_3).toNat * 8)).off + 5, none⟩ = some (.int .i64 ((rd_T35 l0_7 x6_3).f5)) ∧ w'.cell? ⟨(ad153.add ((x6_3).toNat * 8)).block, (ad153.add ((x6_3).toNat * 8)).off + 6, none⟩ = some (.string ((rd_T35 l0_7 x6_3).f6)) ∧ w'.cell? ⟨(ad153.add ((x6_3).toNat * 8)).block, (ad153.add ((x6_3).toNat * 8)).off + 7, none⟩ = some (.slice A153_7 ((rd_T35 l0_7 x6_3).f7).length c153_7) ∧ w'.cell? (ad154.add ((x6_3).toNat * 8)) = some (.int .i64 ((rd_T35 l1_7 x6_3).f0)) ∧ w'.cell? ⟨(ad154.add ((x6_3).toNat * 8)).block, (ad154.add ((x6_3).toNat * 8)).off + 1, none⟩ = some (.int .i64 ((rd_T35 l1_7 x6_3).f1)) ∧ w'.cell? ⟨(ad154.add ((x6_3).toNat * 8)).block, (ad154.add ((x6_3).toNat * 8)).off + 2, none⟩ = some (.slice A154_2 ((rd_T35 l1_7 x6_3).f2).length c154_2) ∧ w'.cell? ⟨(ad154.add ((x6_3).toNat * 8)).block, (ad154.add ((x6_3).toNat * 8)).off + 3, none⟩ = some (.int .i64 ((rd_T35 l1_7 x6_3).f3)) ∧ w'.cell? ⟨(ad154.add ((x6_3).toNat * 8)).block, (ad154.add ((x6_3).toNat * 8)).off + 4, none⟩ = some (.int .i64 ((rd_T35 l1_7 x6_3).f4)) ∧ w'.cell? ⟨(ad154.add ((x6_3).toNat * 8)).block, (ad154.add ((x6_3).toNat * 8)).off + 5, none⟩ = some (.int .i64 ((rd_T35 l1_7 x6_3).f5)) ∧ w'.cell? ⟨(ad154.add ((x6_3).toNat * 8)).block, (ad154.add ((x6_3).toNat * 8)).off + 6, none⟩ = some (.string ((rd_T35 l1_7 x6_3).f6)) ∧ w'.cell? ⟨(ad154.add ((x6_3).toNat * 8)).block, (ad154.add ((x6_3).toNat * 8)).off + 7, none⟩ = some (.slice A154_7 ((rd_T35 l1_7 x6_3).f7).length c154_7)) (ds := []) #[false, false, false, false, false, false, false, false, false, false, false, false] (by kernel_rfl) rfl rfl ⟨(blk_cell BK146.out 0).trans rfl, (blk_cell BK146.out 1).trans rfl, (blk_cell BK146.out 2).trans rfl, (blk_cell BK146.out 3).trans rfl, (blk_cell BK146.out 4).trans rfl, (blk_cell BK146.out 5).trans rfl, (blk_cell BK146.out 6).trans rfl, (blk_cell BK146.out 7).trans rfl, (blk_cell BK147.out 0).trans rfl, (blk_cell BK147.out 1).trans rfl, (blk_cell BK147.out 2).trans rfl, (blk_cell BK147.out 3).trans rfl, (blk_cell BK147.out 4).trans rfl, (blk_cell BK147.out 5).trans rfl, (blk_cell BK147.out 6).trans rfl, (blk_cell BK147.out 7).trans rfl, ((HB.out.cell (World.block_lt_of_cell? w _ hw153_0)).trans hw153_0), ((HB.out.cell (World.block_lt_of_cell? w _ hw153_1)).trans hw153_1), ((HB.out.cell (World.block_lt_of_cell? w _ hw153_2)).trans hw153_2), ((HB.out.cell (World.block_lt_of_cell? w _ hw153_3)).trans hw153_3), ((HB.out.cell (World.block_lt_of_cell? w _ hw153_4)).trans hw153_4), ((HB.out.cell (World.block_lt_of_cell? w _ hw153_5)).trans hw153_5), ((HB.out.cell (World.block_lt_of_cell? w _ hw153_6)).trans hw153_6), ((HB.out.cell (World.block_lt_of_cell? w _ hw153_7)).trans hw153_7), ((HB.out.cell (World.block_lt_of_cell? w _ hw154_0)).trans hw154_0), ((HB.out.cell (World.block_lt_of_cell? w _ hw154_1)).trans hw154_1), ((HB.out.cell (World.block_lt_of_cell? w _ hw154_2)).trans hw154_2), ((HB.out.cell (World.block_lt_of_cell? w _ hw154_3)).trans hw154_3), ((HB.out.cell (World.block_lt_of_cell? w _ hw154_4)).trans hw154_4), ((HB.out.cell (World.block_lt_of_cell? w _ hw154_5)).trans hw154_5), ((HB.out.cell (World.block_lt_of_cell? w _ hw154_6)).trans hw154_6), ((HB.out.cell (World.block_lt_of_cell? w _ hw154_7)).trans hw154_7)⟩ (fun hHeld => ?_); refine with_tabW spec_SySame.tab21 spec_SySame.bits21 (fun HT_ HW_ => ?_)
                        generalize wr.drew = w83 at BK146 BK147 HB HR153_2 HR153_7 HR154_2 HR154_7 hx153_0 hx153_1 hx153_2 hx153_3 hx153_4 hx153_5 hx153_6 hx153_7 hx154_0 hx154_1 hx154_2 hx154_3 hx154_4 hx154_5 hx154_6 hx154_7 hHeld ⊢
                        refine pure_ (i := 0) (N := some 91) (v := ?_) (a' := ?_) #[true, false, false, false, false, false, false, false, false, false, false, false] rfl rfl (any_of HT_.out (by kernel_rfl)) (fun _ _ _ h => h) (Or.inl ⟨by rfl, ?_⟩) ?_ ?_
                        rotate_left
                        · intro w'
                          go_simp
                          with_reducible rfl
                        rotate_left
                        · simp only [Act.put, List.setIfInBounds_toArray, List.set_cons_zero, List.set_cons_succ, i64_w, i32_w]
                          rfl
                        refine pure_ (i := 2) (N := some 93) (v := ?_) (a' := ?_) #[true, false, true, false, false, false, false, false, false, false, false, false] rfl rfl (any_of HT_.out (by kernel_rfl)) (fun _ _ _ h => h) (Or.inl ⟨by rfl, ?_⟩) ?_ ?_
                        rotate_left
                        · intro w'
                          go_simp
                          with_reducible rfl
                        rotate_left
                        · simp only [Act.put, List.setIfInBounds_toArray, List.set_cons_zero, List.set_cons_succ, i64_w, i32_w]
                          rfl
                        refine pure_ (i := 5) (N := some 96) (v := ?_) (a' := ?_) #[true, false, true, false, false, true, false, false, false, false, false, false] rfl rfl (any_of HT_.out (by kernel_rfl)) (fun _ _ _ h => h) (Or.inl ⟨by rfl, ?_⟩) ?_ ?_
                        rotate_left
                        · intro w'
                          go_simp
                          with_reducible rfl
                        rotate_left
                        · simp only [Act.put, List.setIfInBounds_toArray, List.set_cons_zero, List.set_cons_succ, i64_w, i32_w]
                          rfl
                        refine pure_ (i := 7) (N := some 98) (v := ?_) (a' := ?_) #[true, false, true, false, false, true, false, true, false, false, false, false] rfl rfl (any_of HT_.out (by kernel_rfl)) (fun _ _ _ h => h) (Or.inl ⟨by rfl, ?_⟩) ?_ ?_
                        rotate_left
                        · intro w'
                          go_simp
                          with_reducible rfl
                        rotate_left
                        · simp only [Act.put, List.setIfInBounds_toArray, List.set_cons_zero, List.set_cons_succ, i64_w, i32_w]
                          rfl
                        refine take_ (i := 1) (N := some 92) (v := ?_) (a' := ?_) #[true, true, true, false, false, true, false, true, false, false, false, false] rfl rfl (take_ofW HT_.out HW_.out (by kernel_rfl)) (fun _ _ _ h => h) (Or.inl ⟨by rfl, ?_⟩) hHeld ?_ ?_
                        rotate_left
                        · rintro w' ⟨s0, s1, s2, s3, s4, s5, s6, s7, s8, s9, s10, s11, s12, s13, s14, s15, s16, s17, s18, s19, s20, s21, s22, s23, s24, s25, s26, s27, s28, s29, s30, s31⟩
                          go_simp
                          with_reducible rfl
                        rotate_left
                        · simp only [Act.put, List.setIfInBounds_toArray, List.set_cons_zero, List.set_cons_succ, i64_w, i32_w]
                          rfl
                        refine pure_ (i := 3) (N := some 94) (v := ?_) (a' := ?_) #[true, true, true, true, false, true, false, true, false, false, false, false] rfl rfl (any_of HT_.out (by kernel_rfl)) (fun _ _ _ h => h) (Or.inl ⟨by rfl, ?_⟩) ?_ ?_
                        rotate_left
                        · intro w'
                          go_simp
                          with_reducible rfl
                        rotate_left
                        · simp only [Act.put, List.setIfInBounds_toArray, List.set_cons_zero, List.set_cons_succ, i64_w, i32_w]
                          rfl
                        refine take_ (i := 4) (N := some 95) (v := ?_) (a' := ?_) #[true, true, true, true, true, true, false, true, false, false, false, false] rfl rfl (take_ofW HT_.out HW_.out (by kernel_rfl)) (fun _ _ _ h => h) (Or.inl ⟨by rfl, ?_⟩) hHeld ?_ ?_
                        rotate_left
                        · rintro w' ⟨s0, s1, s2, s3, s4, s5, s6, s7, s8, s9, s10, s11, s12, s13, s14, s15, s16, s17, s18, s19, s20, s21, s22, s23, s24, s25, s26, s27, s28, s29, s30, s31⟩
                          go_simp
                          with_reducible rfl
                        rotate_left
                        · simp only [Act.put, List.setIfInBounds_toArray, List.set_cons_zero, List.set_cons_succ, i64_w, i32_w]
                          rfl
                        refine take_ (i := 6) (N := some 97) (v := ?_) (a' := ?_) #[true, true, true, true, true, true, true, true, false, false, false, false] rfl rfl (take_ofW HT_.out HW_.out (by kernel_rfl)) (fun _ _ _ h => h) (Or.inl ⟨by rfl, ?_⟩) hHeld ?_ ?_
                        rotate_left
                        · rintro w' ⟨s0, s1, s2, s3, s4, s5, s6, s7, s8, s9, s10, s11, s12, s13, s14, s15, s16, s17, s18, s19, s20, s21, s22, s23, s24, s25, s26, s27, s28, s29, s30, s31⟩
                          go_simp
                          with_reducible rfl
                        rotate_left
                        · simp only [Act.put, List.setIfInBounds_toArray, List.set_cons_zero, List.set_cons_succ, i64_w, i32_w]
                          rfl
                        refine pure_ (i := 8) (N := some 99) (v := ?_) (a' := ?_) #[true, true, true, true, true, true, true, true, true, false, false, false] rfl rfl (any_of HT_.out (by kernel_rfl)) (fun _ _ _ h => h) (Or.inl ⟨by rfl, ?_⟩) ?_ ?_
                        rotate_left
                        · intro w'
                          go_simp
                          with_reducible rfl
                        rotate_left
                        · simp only [Act.put, List.setIfInBounds_toArray, List.set_cons_zero, List.set_cons_succ, i64_w, i32_w]
                          rfl
                        refine take_ (i := 9) (N := some 100) (v := ?_) (a' := ?_) #[true, true, true, true, true, true, true, true, true, true, false, false] rfl rfl (take_ofW HT_.out HW_.out (by kernel_rfl)) (fun _ _ _ h => h) (Or.inl ⟨by rfl, ?_⟩) hHeld ?_ ?_
                        rotate_left
                        · rintro w' ⟨s0, s1, s2, s3, s4, s5, s6, s7, s8, s9, s10, s11, s12, s13, s14, s15, s16, s17, s18, s19, s20, s21, s22, s23, s24, s25, s26, s27, s28, s29, s30, s31⟩
                          go_simp
                          with_reducible rfl
                        rotate_left
                        · simp only [Act.put, List.setIfInBounds_toArray, List.set_cons_zero, List.set_cons_succ, i64_w, i32_w]
                          rfl
                        refine one_ (i := 10) (N := some 101) #[true, true, true, true, true, true, true, true, true, true, true, false] rfl rfl (one_of HT_.out (by kernel_rfl)) (by decide) (fun K hK => ?_)
                        refine goes_ Try.func21 (by kernel_rfl) rfl #[.agg #[.int .i64 ((rd_T35 l0_7 x6_3).f0), .int .i64 ((rd_T35 l0_7 x6_3).f1), .slice A153_2 ((rd_T35 l0_7 x6_3).f2).length c153_2, .int .i64 ((rd_T35 l0_7 x6_3).f3), .int .i64 ((rd_T35 l0_7 x6_3).f4), .int .i64 ((rd_T35 l0_7 x6_3).f5), .string ((rd_T35 l0_7 x6_3).f6), .slice A153_7 ((rd_T35 l0_7 x6_3).f7).length c153_7], .agg #[.int .i64 ((rd_T35 l1_7 x6_3).f0), .int .i64 ((rd_T35 l1_7 x6_3).f1), .slice A154_2 ((rd_T35 l1_7 x6_3).f2).length c154_2, .int .i64 ((rd_T35 l1_7 x6_3).f3), .int .i64 ((rd_T35 l1_7 x6_3).f4), .int .i64 ((rd_T35 l1_7 x6_3).f5), .string ((rd_T35 l1_7 x6_3).f6), .slice A154_7 ((rd_T35 l1_7 x6_3).f7).length c154_7]] (by rfl) rfl rfl (by (try simp only [List.map_toArray, List.map_cons, List.map_nil]); first | done | rfl | (simp only [List.length_drop, List.length_take]; rfl)) ?_
                        with_reducible refine (ih k3 (by have := HJ2.out; have := HJ13.out; have := HK3.out; omega) ((rd_T35 l0_7 x6_3).f0) ((rd_T35 l0_7 x6_3).f1) _ _ ((rd_T35 l0_7 x6_3).f2) ((rd_T35 l0_7 x6_3).f3) ((rd_T35 l0_7 x6_3).f4) ((rd_T35 l0_7 x6_3).f5) ((rd_T35 l0_7 x6_3).f6) _ _ ((rd_T35 l0_7 x6_3).f7) ((rd_T35 l1_7 x6_3).f0) ((rd_T35 l1_7 x6_3).f1) _ _ ((rd_T35 l1_7 x6_3).f2) ((rd_T35 l1_7 x6_3).f3) ((rd_T35 l1_7 x6_3).f4) ((rd_T35 l1_7 x6_3).f5) ((rd_T35 l1_7 x6_3).f6) _ _ ((rd_T35 l1_7 x6_3).f7) t155 _ ?side1 ?side2 ?side3 ?side4 ?side5 ?side6 ?side7 ?side8 A80.out).mono ?_
                        (case side1 => repeat (first | exact (Kd.C_below HR153_2.out HB.out) | (with_reducible refine Kd.C_alloc ?_ _) | (with_reducible refine Kd.C_drewN ?_ _) | (with_reducible refine Kd.C_drew ?_)))
                        (case side2 => exact HC153_2.out)
                        (case side3 => repeat (first | exact (Kd.C_below HR153_7.out HB.out) | (with_reducible refine Kd.C_alloc ?_ _) | (with_reducible refine Kd.C_drewN ?_ _) | (with_reducible refine Kd.C_drew ?_)))
                        (case side4 => exact HC153_7.out)
                        (case side5 => repeat (first | exact (Kd.C_below HR154_2.out HB.out) | (with_reducible refine Kd.C_alloc ?_ _) | (with_reducible refine Kd.C_drewN ?_ _) | (with_reducible refine Kd.C_drew ?_)))
                        (case side6 => exact HC154_2.out)
                        (case side7 => repeat (first | exact (Kd.C_below HR154_7.out HB.out) | (with_reducible refine Kd.C_alloc ?_ _) | (with_reducible refine Kd.C_drewN ?_ _) | (with_reducible refine Kd.C_drew ?_)))
                        (case side8 => exact HC154_7.out)
                        rintro e w84 ⟨rfl, hb⟩
                        refine ⟨_, rfl, ?_⟩
                        have n0_ := Aside0.mk (blk_below (g := gb146) (o := .cells #[.int .i64 a0_0, .int .i64 a0_1, .slice A0_2 l0_2.length c0_2, .int .i64 a0_3, .int .i64 a0_4, .int .i64 a0_5, .string a0_6, .slice (some ad153) l0_7.length c0_7] 35 (0, 0)) (by (with_reducible repeat (first | refine blk_drewN ?_ _ | refine blk_drew ?_ | refine blk_alloc ?_ _)); exact BK146.out) hb)
                        have n1_ := Aside0.mk (blk_below (g := gb147) (o := .cells #[.int .i64 a1_0, .int .i64 a1_1, .slice A1_2 l1_2.length c1_2, .int .i64 a1_3, .int .i64 a1_4, .int .i64 a1_5, .string a1_6, .slice (some ad154) l1_7.length c1_7] 35 (0, 0)) (by (with_reducible repeat (first | refine blk_drewN ?_ _ | refine blk_drew ?_ | refine blk_alloc ?_ _)); exact BK147.out) hb)
                        have n2_ := Aside0.mk (below_step (by repeat (first | (with_reducible first | exact HB.out | apply below_alloc | apply pw_below_drewN | apply below_drew1 | refine below_set ?_ GE146.out | refine below_set ?_ GE147.out) | exact HB.out)) hb)
                        clear BK146
                        clear BK147
                        clear HB
                        have BK146 := n0_
                        have BK147 := n1_
                        have HB := n2_
                        clear n0_ n1_ n2_
                        (try clear hb)
                        (try clear hb2)
                        (try clear hk)
                        (try clear hi)
                        refine hK.out _ _ ⟨(blk_cell BK146.out 0).trans rfl, (blk_cell BK146.out 1).trans rfl, (blk_cell BK146.out 2).trans rfl, (blk_cell BK146.out 3).trans rfl, (blk_cell BK146.out 4).trans rfl, (blk_cell BK146.out 5).trans rfl, (blk_cell BK146.out 6).trans rfl, (blk_cell BK146.out 7).trans rfl, (blk_cell BK147.out 0).trans rfl, (blk_cell BK147.out 1).trans rfl, (blk_cell BK147.out 2).trans rfl, (blk_cell BK147.out 3).trans rfl, (blk_cell BK147.out 4).trans rfl, (blk_cell BK147.out 5).trans rfl, (blk_cell BK147.out 6).trans rfl, (blk_cell BK147.out 7).trans rfl, ((HB.out.cell (World.block_lt_of_cell? w _ hw153_0)).trans hw153_0), ((HB.out.cell (World.block_lt_of_cell? w _ hw153_1)).trans hw153_1), ((HB.out.cell (World.block_lt_of_cell? w _ hw153_2)).trans hw153_2), ((HB.out.cell (World.block_lt_of_cell? w _ hw153_3)).trans hw153_3), ((HB.out.cell (World.block_lt_of_cell? w _ hw153_4)).trans hw153_4), ((HB.out.cell (World.block_lt_of_cell? w _ hw153_5)).trans hw153_5), ((HB.out.cell (World.block_lt_of_cell? w _ hw153_6)).trans hw153_6), ((HB.out.cell (World.block_lt_of_cell? w _ hw153_7)).trans hw153_7), ((HB.out.cell (World.block_lt_of_cell? w _ hw154_0)).trans hw154_0), ((HB.out.cell (World.block_lt_of_cell? w _ hw154_1)).trans hw154_1), ((HB.out.cell (World.block_lt_of_cell? w _ hw154_2)).trans hw154_2), ((HB.out.cell (World.block_lt_of_cell? w _ hw154_3)).trans hw154_3), ((HB.out.cell (World.block_lt_of_cell? w _ hw154_4)).trans hw154_4), ((HB.out.cell (World.block_lt_of_cell? w _ hw154_5)).trans hw154_5), ((HB.out.cell (World.block_lt_of_cell? w _ hw154_6)).trans hw154_6), ((HB.out.cell (World.block_lt_of_cell? w _ hw154_7)).trans hw154_7)⟩ (fun hHeld => ?_)
                        clear hK K
                        refine norm_ (a' := ?_) ?_ ?_
                        rotate_left
                        · show Act.put _ (some 101) _ = _
                          simp only [Act.put, List.setIfInBounds_toArray, List.set_cons_zero, List.set_cons_succ, i64_w, i32_w]
                          rfl
                        refine pure_ (i := 11) (N := some 5) (v := ?_) (a' := ?_) #[true, true, true, true, true, true, true, true, true, true, true, true] rfl rfl (any_of HT_.out (by kernel_rfl)) (fun _ _ _ h => h) (Or.inl ⟨by rfl, ?_⟩) ?_ ?_
                        rotate_left
                        · intro w'
                          go_simp
                          with_reducible rfl
                        rotate_left
                        · simp only [Act.put, List.setIfInBounds_toArray, List.set_cons_zero, List.set_cons_succ, i64_w, i32_w]
                          rfl
                        refine done_ (done_of HT_.out (by kernel_rfl)) ?_
                        try go_wp2
                        go_roundg k3
                        case measure => have := HJ2.out; have := HJ13.out; have := HK3.out; omega
                        case rel => exact ⟨(t155), (wrap64 (x6_3 + 1)), (by first | rfl | (simp; done) | (simp [*]; done)), (by first | rfl | (simp; done) | (simp [*]; done)), H', ⟨by have := HJ2.out; have := HJ13.out; have := HK3.out; omega⟩, ⟨by (with_reducible repeat (first | refine blk_drewN ?_ _ | refine blk_drew ?_ | refine blk_alloc ?_ _)); exact BK146.out⟩, ⟨by (with_reducible repeat (first | refine blk_drewN ?_ _ | refine blk_drew ?_ | refine blk_alloc ?_ _)); exact BK147.out⟩, ⟨by repeat (first | (with_reducible first | exact HB.out | apply below_alloc | apply pw_below_drewN | apply below_drew1 | refine below_set ?_ GE146.out | refine below_set ?_ GE147.out) | exact HB.out)⟩⟩
                      · rw [if_neg c79] at H
                        exact absurd H (by simp)
                    · rw [if_neg c78] at H
                      exact absurd H (by simp)
                  · rw [if_neg c77] at H
                    have c77b0 : decide (x6_3 < (l0_7.length : Int)) = false := decide_eq_false c77
                    clear c77
                    obtain rfl := Option.some.inj H
                    have hnb85 := NB146_147.out
                    have hnc85 := NB147_146.out
                    have hcz86_0 : wr.cell? ⟨gb146, 0, none⟩ = some (.int .i64 a0_0) := (blk_cell BK146.out 0).trans rfl
                    have hcz86_1 : wr.cell? ⟨gb146, 1, none⟩ = some (.int .i64 a0_1) := (blk_cell BK146.out 1).trans rfl
                    have hcz86_2 : wr.cell? ⟨gb146, 2, none⟩ = some (.slice A0_2 l0_2.length c0_2) := (blk_cell BK146.out 2).trans rfl
                    have hcz86_3 : wr.cell? ⟨gb146, 3, none⟩ = some (.int .i64 a0_3) := (blk_cell BK146.out 3).trans rfl
                    have hcz86_4 : wr.cell? ⟨gb146, 4, none⟩ = some (.int .i64 a0_4) := (blk_cell BK146.out 4).trans rfl
                    have hcz86_5 : wr.cell? ⟨gb146, 5, none⟩ = some (.int .i64 a0_5) := (blk_cell BK146.out 5).trans rfl
                    have hcz86_6 : wr.cell? ⟨gb146, 6, none⟩ = some (.string a0_6) := (blk_cell BK146.out 6).trans rfl
                    have hcz86_7 : wr.cell? ⟨gb146, 7, none⟩ = some (.slice A0_7 l0_7.length c0_7) := (blk_cell BK146.out 7).trans rfl
                    have hfz86_0 := blk_frozen BK146.out 0
                    have hfz86_1 := blk_frozen BK146.out 1
                    have hfz86_2 := blk_frozen BK146.out 2
                    have hfz86_3 := blk_frozen BK146.out 3
                    have hfz86_4 := blk_frozen BK146.out 4
                    have hfz86_5 := blk_frozen BK146.out 5
                    have hfz86_6 := blk_frozen BK146.out 6
                    have hfz86_7 := blk_frozen BK146.out 7
                    go_wp2
                    go_ret
                    exact ⟨by first | rfl | (simp [errW_none, errW_some] <;> rfl) | (simp [*, errW_none, errW_some] <;> rfl), by repeat (first | (with_reducible first | exact HB.out | apply below_alloc | apply pw_below_drewN | apply below_drew1 | refine below_set ?_ GE146.out | refine below_set ?_ GE147.out) | exact HB.out)⟩
                · replace c76 := Bool.eq_false_iff.mpr c76
                  subst c76
                  have H1 : (some false) = some r := by rw [if_neg (show ¬ (false = true) by decide)] at H; exact H
                  clear H
                  have H := H1
                  clear H1
                  obtain rfl := Option.some.inj H
                  go_wp2
                  go_ret
                  exact ⟨by first | rfl | (simp [errW_none, errW_some] <;> rfl) | (simp [*, errW_none, errW_some] <;> rfl), by repeat (first | (with_reducible first | exact HB.out | apply below_alloc | apply pw_below_drewN | apply below_drew1 | refine below_set ?_ GE146.out | refine below_set ?_ GE147.out) | exact HB.out)⟩

end Go.Proofs.Ytholpemmakdglaa.PFnSySimplifyTwice
