-- PRINTED BY print.sh 35421559b90ae4d0a3588c463048766b98c2df88dd9212a6774a882060cdf62d: not written by this session
import Derived.Test.YtcncclglmgdinaaDoorPFnPgStepx0
import Derived.Test.YtcncclglmgdinaaDoorPFnPgStepx7
namespace Go.Proofs.YtcncclglmgdinaaDoor.PFnPgStep
open Go.RowKit Go.Proofs.YtcncclglmgdinaaDoorW.PrintWords Go.Proofs.YtcncclglmgdinaaDoorW.PrintLast Go.Proofs.YtcncclglmgdinaaDoorW.PrintMore
attribute [local go_sem] max2_int min2_int max_two min_two max_three min_three max_four min_four   -- for this text's walks alone
set_option linter.unusedVariables false
set_option linter.unusedSimpArgs false

/-! ### regexp_lazyFlag_match: function 75 -/
mutual
def regexp_lazyFlag_match.j0 : Nat → Int → Int → Int → Option (Bool)
 | 0, _, _, _ => none
 | k + 1, x0, x1, x5 => if (Go.bits .and .u8 x1 4) = 0 then (regexp_lazyFlag_match.j1 k x0 x1 x5) else (if x5 ≥ 0 then (some false) else (regexp_lazyFlag_match.j1 k x0 (Go.bits .andNot .u8 x1 4) x5))
def regexp_lazyFlag_match.j1 : Nat → Int → Int → Int → Option (Bool)
 | 0, _, _, _ => none
 | k + 1, x0, x1, x5 => if x1 = 0 then (some true) else (if (Go.bits .and .u8 x1 2) = 0 then (regexp_lazyFlag_match.j2 k x1 x5 (wrap32 (x0))) else (if (wrap32 (x0)) = 10 then (regexp_lazyFlag_match.j2 k (Go.bits .andNot .u8 x1 2) x5 (wrap32 (x0))) else (if (wrap32 (x0)) ≥ 0 then (some false) else (regexp_lazyFlag_match.j2 k (Go.bits .andNot .u8 x1 2) x5 (wrap32 (x0))))))
def regexp_lazyFlag_match.j2 : Nat → Int → Int → Int → Option (Bool)
 | 0, _, _, _ => none
 | k + 1, x1, x5, x6 => if (Go.bits .and .u8 x1 8) = 0 then (regexp_lazyFlag_match.j3 k x1 x5 x6) else (if x6 ≥ 0 then (some false) else (regexp_lazyFlag_match.j3 k (Go.bits .andNot .u8 x1 8) x5 x6))
def regexp_lazyFlag_match.j3 : Nat → Int → Int → Int → Option (Bool)
 | 0, _, _, _ => none
 | k + 1, x1, x5, x6 => if x1 = 0 then (some true) else ((regexpsyntax_IsWordChar.f x5).bind fun t188 => ((regexpsyntax_IsWordChar.f x6).bind fun t189 => (if (t188 != t189) = true then (some ((Go.bits .andNot .u8 x1 16) == 0)) else (some ((Go.bits .andNot .u8 x1 32) == 0)))))
end
def regexp_lazyFlag_match.f (k : Nat) (a0 : Int) (a1 : Int) : Option (Bool) := if a1 = 0 then (some true) else (if (Go.bits .and .u8 a1 1) = 0 then (regexp_lazyFlag_match.j0 k a0 a1 (wrap32 (a0 / 4294967296))) else (if (wrap32 (a0 / 4294967296)) = 10 then (regexp_lazyFlag_match.j0 k a0 (Go.bits .andNot .u8 a1 1) (wrap32 (a0 / 4294967296))) else (if (wrap32 (a0 / 4294967296)) ≥ 0 then (some false) else (regexp_lazyFlag_match.j0 k a0 (Go.bits .andNot .u8 a1 1) (wrap32 (a0 / 4294967296))))))
theorem regexp_lazyFlag_match.mono_l : ∀ k, (∀ y0 y1 y2, LeO (regexp_lazyFlag_match.j0 k y0 y1 y2) (regexp_lazyFlag_match.j0 (k + 1) y0 y1 y2)) ∧ (∀ y0 y1 y2, LeO (regexp_lazyFlag_match.j1 k y0 y1 y2) (regexp_lazyFlag_match.j1 (k + 1) y0 y1 y2)) ∧ (∀ y0 y1 y2, LeO (regexp_lazyFlag_match.j2 k y0 y1 y2) (regexp_lazyFlag_match.j2 (k + 1) y0 y1 y2)) ∧ (∀ y0 y1 y2, LeO (regexp_lazyFlag_match.j3 k y0 y1 y2) (regexp_lazyFlag_match.j3 (k + 1) y0 y1 y2))
 | 0 => ⟨fun _ _ _ r h => by simp [regexp_lazyFlag_match.j0] at h, fun _ _ _ r h => by simp [regexp_lazyFlag_match.j1] at h, fun _ _ _ r h => by simp [regexp_lazyFlag_match.j2] at h, fun _ _ _ r h => by simp [regexp_lazyFlag_match.j3] at h⟩
 | k + 1 => by
  obtain ⟨ih0, ih1, ih2, ih3⟩ := regexp_lazyFlag_match.mono_l k
  refine ⟨?_, ?_, ?_, ?_⟩
  ·intro y0 y1 y2
   unfold regexp_lazyFlag_match.j0
   repeat' first
   | (with_reducible exact ih0 _ _ _)
   | (with_reducible exact ih1 _ _ _)
   | (with_reducible exact ih2 _ _ _)
   | (with_reducible exact ih3 _ _ _)
   | (with_reducible exact LeO.refl _)
   | (with_reducible exact LeO.none _)
   | (with_reducible refine LeO.ite ?_ ?_)
   | (with_reducible refine LeO.bind ?_ (fun _ => ?_))
   | exact ih0 _ _ _
   | exact ih1 _ _ _
   | exact ih2 _ _ _
   | exact ih3 _ _ _
   | exact LeO.none _
   | refine LeO.ite ?_ ?_
   | refine LeO.bind ?_ (fun _ => ?_)
  ·intro y0 y1 y2
   unfold regexp_lazyFlag_match.j1
   repeat' first
   | (with_reducible exact ih0 _ _ _)
   | (with_reducible exact ih1 _ _ _)
   | (with_reducible exact ih2 _ _ _)
   | (with_reducible exact ih3 _ _ _)
   | (with_reducible exact LeO.refl _)
   | (with_reducible exact LeO.none _)
   | (with_reducible refine LeO.ite ?_ ?_)
   | (with_reducible refine LeO.bind ?_ (fun _ => ?_))
   | exact ih0 _ _ _
   | exact ih1 _ _ _
   | exact ih2 _ _ _
   | exact ih3 _ _ _
   | exact LeO.none _
   | refine LeO.ite ?_ ?_
   | refine LeO.bind ?_ (fun _ => ?_)
  ·intro y0 y1 y2
   unfold regexp_lazyFlag_match.j2
   repeat' first
   | (with_reducible exact ih0 _ _ _)
   | (with_reducible exact ih1 _ _ _)
   | (with_reducible exact ih2 _ _ _)
   | (with_reducible exact ih3 _ _ _)
   | (with_reducible exact LeO.refl _)
   | (with_reducible exact LeO.none _)
   | (with_reducible refine LeO.ite ?_ ?_)
   | (with_reducible refine LeO.bind ?_ (fun _ => ?_))
   | exact ih0 _ _ _
   | exact ih1 _ _ _
   | exact ih2 _ _ _
   | exact ih3 _ _ _
   | exact LeO.none _
   | refine LeO.ite ?_ ?_
   | refine LeO.bind ?_ (fun _ => ?_)
  ·intro y0 y1 y2
   unfold regexp_lazyFlag_match.j3
   repeat' first
   | (with_reducible exact ih0 _ _ _)
   | (with_reducible exact ih1 _ _ _)
   | (with_reducible exact ih2 _ _ _)
   | (with_reducible exact ih3 _ _ _)
   | (with_reducible exact LeO.refl _)
   | (with_reducible exact LeO.none _)
   | (with_reducible refine LeO.ite ?_ ?_)
   | (with_reducible refine LeO.bind ?_ (fun _ => ?_))
   | exact ih0 _ _ _
   | exact ih1 _ _ _
   | exact ih2 _ _ _
   | exact ih3 _ _ _
   | exact LeO.none _
   | refine LeO.ite ?_ ?_
   | refine LeO.bind ?_ (fun _ => ?_)
theorem regexp_lazyFlag_match.mono : ∀ a0 a1 k, LeO (regexp_lazyFlag_match.f k a0 a1) (regexp_lazyFlag_match.f (k + 1) a0 a1) := by
 intro a0 a1 k
 obtain ⟨ih0, ih1, ih2, ih3⟩ := regexp_lazyFlag_match.mono_l k
 unfold regexp_lazyFlag_match.f
 repeat' first
   | (with_reducible exact ih0 _ _ _)
   | (with_reducible exact ih1 _ _ _)
   | (with_reducible exact ih2 _ _ _)
   | (with_reducible exact ih3 _ _ _)
   | (with_reducible exact LeO.refl _)
   | (with_reducible exact LeO.none _)
   | (with_reducible refine LeO.ite ?_ ?_)
   | (with_reducible refine LeO.bind ?_ (fun _ => ?_))
   | exact ih0 _ _ _
   | exact ih1 _ _ _
   | exact ih2 _ _ _
   | exact ih3 _ _ _
   | exact LeO.none _
   | refine LeO.ite ?_ ?_
   | refine LeO.bind ?_ (fun _ => ?_)
set_option maxHeartbeats 8000000 in
set_option maxRecDepth 100000 in
theorem regexp_lazyFlag_match.calls (k : Nat) (a0 : Int) (a1 : Int) (r : Bool) (w : World) (h : regexp_lazyFlag_match.f k a0 a1 = some r) :
  Calls Tryd.prog 75 #[.int .u64 a0, .int .u8 a1] w fun e w' => e = .returned (.bool r) ∧ Drawn0 w w' := by
 have H : (if a1 = 0 then (some true) else (if (Go.bits .and .u8 a1 1) = 0 then (regexp_lazyFlag_match.j0 k a0 a1 (wrap32 (a0 / 4294967296))) else (if (wrap32 (a0 / 4294967296)) = 10 then (regexp_lazyFlag_match.j0 k a0 (Go.bits .andNot .u8 a1 1) (wrap32 (a0 / 4294967296))) else (if (wrap32 (a0 / 4294967296)) ≥ 0 then (some false) else (regexp_lazyFlag_match.j0 k a0 (Go.bits .andNot .u8 a1 1) (wrap32 (a0 / 4294967296))))))) = some r := h
 clear h
 by_cases c3 : a1 = 0
 ·rw [if_pos c3] at H
  have c3b0 : (a1 == 0) = true := beq_iff_eq.mpr c3
  have c3b1 : (a1 != 0) = false := bne_eq_false_iff_eq.mpr c3
  clear c3
  obtain rfl := Option.some.inj H
  go_enter Tryd.func75, Tryd.ntmps75
  go_wp2
  go_ret
  exact ⟨by first | rfl | (simp; done) | (simp [*]; done), by repeat (first | exact Drawn0.refl _ | apply Drawn0.step)⟩
 ·rw [if_neg c3] at H
  have c3b0 : (a1 == 0) = false := beq_eq_false_iff_ne.mpr c3
  have c3b1 : (a1 != 0) = true := bne_iff_ne.mpr c3
  have HC4 := Aside0.mk H
  clear H
  go_enter Tryd.func75, Tryd.ntmps75
  go_upto_if 14 with (fail)
  go_cut [1] (fun v1 wc => ∃ (kq : Nat) (x1_3 : Int), v1 = .int .u8 x1_3 ∧ Aside0 (regexp_lazyFlag_match.j0 kq a0 x1_3 (wrap32 (a0 / 4294967296)) = some r) ∧ Aside0 (kq ≤ k) ∧ Drawn0 w wc)
  case first =>
   have H := HC4.out
   clear HC4
   by_cases c5 : (Go.bits .and .u8 a1 1) = 0
   ·rw [if_pos c5] at H
    have c5b0 : ((Go.bits .and .u8 a1 1) == 0) = true := beq_iff_eq.mpr c5
    have c5b1 : ((Go.bits .and .u8 a1 1) != 0) = false := bne_eq_false_iff_eq.mpr c5
    clear c5
    (first | rw [c5b0] | (simp only [i64_w, i32_w]; rw [c5b0]) | skip)
    have H' := Aside0.mk H
    clear H
    go_wp2
    go_meet
    case rel => exact ⟨_, (a1), (by first | rfl | (simp; done) | (simp [*]; done)), H', ⟨by first | omega | exact Nat.le_refl _⟩, by repeat (first | exact Drawn0.refl _ | apply Drawn0.step)⟩
   ·rw [if_neg c5] at H
    have c5b0 : ((Go.bits .and .u8 a1 1) == 0) = false := beq_eq_false_iff_ne.mpr c5
    have c5b1 : ((Go.bits .and .u8 a1 1) != 0) = true := bne_iff_ne.mpr c5
    (first | rw [c5b0] | (simp only [i64_w, i32_w]; rw [c5b0]) | skip)
    by_cases c6 : (wrap32 (a0 / 4294967296)) = 10
    ·rw [if_pos c6] at H
     have c6b0 : ((wrap32 (a0 / 4294967296)) == 10) = true := beq_iff_eq.mpr c6
     have c6b1 : ((wrap32 (a0 / 4294967296)) != 10) = false := bne_eq_false_iff_eq.mpr c6
     clear c6
     have H' := Aside0.mk H
     clear H
     go_wp2
     go_meet
     case rel => exact ⟨_, (Go.bits .andNot .u8 a1 1), (by first | rfl | (simp; done) | (simp [*]; done)), H', ⟨by first | omega | exact Nat.le_refl _⟩, by repeat (first | exact Drawn0.refl _ | apply Drawn0.step)⟩
    ·rw [if_neg c6] at H
     have c6b0 : ((wrap32 (a0 / 4294967296)) == 10) = false := beq_eq_false_iff_ne.mpr c6
     have c6b1 : ((wrap32 (a0 / 4294967296)) != 10) = true := bne_iff_ne.mpr c6
     by_cases c7 : (wrap32 (a0 / 4294967296)) ≥ 0
     ·rw [if_pos c7] at H
      have c7b0 : decide (0 ≤ (wrap32 (a0 / 4294967296))) = true := decide_eq_true c7
      clear c7
      obtain rfl := Option.some.inj H
      go_wp2
      go_ret
      exact ⟨by first | rfl | (simp; done) | (simp [*]; done), by repeat (first | exact Drawn0.refl _ | apply Drawn0.step)⟩
     ·rw [if_neg c7] at H
      have c7b0 : decide (0 ≤ (wrap32 (a0 / 4294967296))) = false := decide_eq_false c7
      clear c7
      have H' := Aside0.mk H
      clear H
      go_wp2
      go_meet
      case rel => exact ⟨_, (Go.bits .andNot .u8 a1 1), (by first | rfl | (simp; done) | (simp [*]; done)), H', ⟨by first | omega | exact Nat.le_refl _⟩, by repeat (first | exact Drawn0.refl _ | apply Drawn0.step)⟩
  case rest =>
   clear HC4
   try clear p2
   try clear c3
   try clear c3b0
   try clear c3b1
   try clear p3
   try clear c5
   try clear c5b0
   try clear c5b1
   try clear c6
   try clear c6b0
   try clear c6b1
   try clear c7
   try clear c7b0
   obtain ⟨kq, x1_3, rfl, HA, HJ3, ⟨mc3, rfl⟩⟩ := hcut
   cases kq with
   | zero => exact absurd HA.out (by simp [regexp_lazyFlag_match.j0])
   | succ kj3 =>
    have H := HA.out
    clear HA
    simp only [regexp_lazyFlag_match.j0] at H
    have HC8 := Aside0.mk H
    clear H
    go_upto_if 25 with (fail)
    go_cut [1] (fun v1 wc => ∃ (kq : Nat) (x1_7 : Int), v1 = .int .u8 x1_7 ∧ Aside0 (regexp_lazyFlag_match.j1 kq a0 x1_7 (wrap32 (a0 / 4294967296)) = some r) ∧ Aside0 (kq ≤ kj3) ∧ Drawn0 w wc)
    case first =>
     have H := HC8.out
     clear HC8
     by_cases c9 : (Go.bits .and .u8 x1_3 4) = 0
     ·rw [if_pos c9] at H
      have c9b0 : ((Go.bits .and .u8 x1_3 4) == 0) = true := beq_iff_eq.mpr c9
      have c9b1 : ((Go.bits .and .u8 x1_3 4) != 0) = false := bne_eq_false_iff_eq.mpr c9
      clear c9
      (first | rw [c9b0] | (simp only [i64_w, i32_w]; rw [c9b0]) | skip)
      have H' := Aside0.mk H
      clear H
      go_wp2
      go_meet
      case rel => exact ⟨_, (x1_3), (by first | rfl | (simp; done) | (simp [*]; done)), H', ⟨by have := HJ3.out; first | omega | exact Nat.le_refl _⟩, by repeat (first | exact Drawn0.refl _ | apply Drawn0.step)⟩
     ·rw [if_neg c9] at H
      have c9b0 : ((Go.bits .and .u8 x1_3 4) == 0) = false := beq_eq_false_iff_ne.mpr c9
      have c9b1 : ((Go.bits .and .u8 x1_3 4) != 0) = true := bne_iff_ne.mpr c9
      (first | rw [c9b0] | (simp only [i64_w, i32_w]; rw [c9b0]) | skip)
      by_cases c10 : (wrap32 (a0 / 4294967296)) ≥ 0
      ·rw [if_pos c10] at H
       have c10b0 : decide (0 ≤ (wrap32 (a0 / 4294967296))) = true := decide_eq_true c10
       clear c10
       obtain rfl := Option.some.inj H
       go_wp2
       go_ret
       exact ⟨by first | rfl | (simp; done) | (simp [*]; done), by repeat (first | exact Drawn0.refl _ | apply Drawn0.step)⟩
      ·rw [if_neg c10] at H
       have c10b0 : decide (0 ≤ (wrap32 (a0 / 4294967296))) = false := decide_eq_false c10
       clear c10
       have H' := Aside0.mk H
       clear H
       go_wp2
       go_meet
       case rel => exact ⟨_, (Go.bits .andNot .u8 x1_3 4), (by first | rfl | (simp; done) | (simp [*]; done)), H', ⟨by have := HJ3.out; first | omega | exact Nat.le_refl _⟩, by repeat (first | exact Drawn0.refl _ | apply Drawn0.step)⟩
    case rest =>
     clear HC8
     try clear c1
     try clear p2
     try clear c3
     try clear c3b0
     try clear c3b1
     try clear p3
     try clear c5
     try clear c5b0
     try clear c5b1
     try clear c6
     try clear c6b0
     try clear c6b1
     try clear c7
     try clear c7b0
     try clear c9
     try clear c9b0
     try clear c9b1
     try clear c10
     try clear c10b0
     try clear p2
     try clear p3
     obtain ⟨kq, x1_7, rfl, HA, HJ7, ⟨mc7, rfl⟩⟩ := hcut
     cases kq with
     | zero => exact absurd HA.out (by simp [regexp_lazyFlag_match.j1])
     | succ kj7 =>
      have H := HA.out
      clear HA
      simp only [regexp_lazyFlag_match.j1] at H
      by_cases c11 : x1_7 = 0
      ·rw [if_pos c11] at H
       have c11b0 : (x1_7 == 0) = true := beq_iff_eq.mpr c11
       have c11b1 : (x1_7 != 0) = false := bne_eq_false_iff_eq.mpr c11
       clear c11
       obtain rfl := Option.some.inj H
       go_wp2
       go_ret
       exact ⟨by first | rfl | (simp; done) | (simp [*]; done), by repeat (first | exact Drawn0.refl _ | apply Drawn0.step)⟩
      ·rw [if_neg c11] at H
       have c11b0 : (x1_7 == 0) = false := beq_eq_false_iff_ne.mpr c11
       have c11b1 : (x1_7 != 0) = true := bne_iff_ne.mpr c11
       have HC12 := Aside0.mk H
       clear H
       go_upto_if 36 with (fail)
       go_cut [1] (fun v1 wc => ∃ (kq : Nat) (x1_11 : Int), v1 = .int .u8 x1_11 ∧ Aside0 (regexp_lazyFlag_match.j2 kq x1_11 (wrap32 (a0 / 4294967296)) (wrap32 (a0)) = some r) ∧ Aside0 (kq ≤ kj7) ∧ Drawn0 w wc)
       case first =>
        have H := HC12.out
        clear HC12
        by_cases c13 : (Go.bits .and .u8 x1_7 2) = 0
        ·rw [if_pos c13] at H
         have c13b0 : ((Go.bits .and .u8 x1_7 2) == 0) = true := beq_iff_eq.mpr c13
         have c13b1 : ((Go.bits .and .u8 x1_7 2) != 0) = false := bne_eq_false_iff_eq.mpr c13
         clear c13
         (first | rw [c13b0] | (simp only [i64_w, i32_w]; rw [c13b0]) | skip)
         have H' := Aside0.mk H
         clear H
         go_wp2
         go_meet
         case rel => exact ⟨_, (x1_7), (by first | rfl | (simp; done) | (simp [*]; done)), H', ⟨by have := HJ3.out; have := HJ7.out; first | omega | exact Nat.le_refl _⟩, by repeat (first | exact Drawn0.refl _ | apply Drawn0.step)⟩
        ·rw [if_neg c13] at H
         have c13b0 : ((Go.bits .and .u8 x1_7 2) == 0) = false := beq_eq_false_iff_ne.mpr c13
         have c13b1 : ((Go.bits .and .u8 x1_7 2) != 0) = true := bne_iff_ne.mpr c13
         (first | rw [c13b0] | (simp only [i64_w, i32_w]; rw [c13b0]) | skip)
         by_cases c14 : (wrap32 (a0)) = 10
         ·rw [if_pos c14] at H
          have c14b0 : ((wrap32 (a0)) == 10) = true := beq_iff_eq.mpr c14
          have c14b1 : ((wrap32 (a0)) != 10) = false := bne_eq_false_iff_eq.mpr c14
          clear c14
          have H' := Aside0.mk H
          clear H
          go_wp2
          go_meet
          case rel => exact ⟨_, (Go.bits .andNot .u8 x1_7 2), (by first | rfl | (simp; done) | (simp [*]; done)), H', ⟨by have := HJ3.out; have := HJ7.out; first | omega | exact Nat.le_refl _⟩, by repeat (first | exact Drawn0.refl _ | apply Drawn0.step)⟩
         ·rw [if_neg c14] at H
          have c14b0 : ((wrap32 (a0)) == 10) = false := beq_eq_false_iff_ne.mpr c14
          have c14b1 : ((wrap32 (a0)) != 10) = true := bne_iff_ne.mpr c14
          by_cases c15 : (wrap32 (a0)) ≥ 0
          ·rw [if_pos c15] at H
           have c15b0 : decide (0 ≤ (wrap32 (a0))) = true := decide_eq_true c15
           clear c15
           obtain rfl := Option.some.inj H
           go_wp2
           go_ret
           exact ⟨by first | rfl | (simp; done) | (simp [*]; done), by repeat (first | exact Drawn0.refl _ | apply Drawn0.step)⟩
          ·rw [if_neg c15] at H
           have c15b0 : decide (0 ≤ (wrap32 (a0))) = false := decide_eq_false c15
           clear c15
           have H' := Aside0.mk H
           clear H
           go_wp2
           go_meet
           case rel => exact ⟨_, (Go.bits .andNot .u8 x1_7 2), (by first | rfl | (simp; done) | (simp [*]; done)), H', ⟨by have := HJ3.out; have := HJ7.out; first | omega | exact Nat.le_refl _⟩, by repeat (first | exact Drawn0.refl _ | apply Drawn0.step)⟩
       case rest =>
        clear HC12
        try clear c1
        try clear p2
        try clear c3
        try clear c3b0
        try clear c3b1
        try clear p3
        try clear c5
        try clear c5b0
        try clear c5b1
        try clear c6
        try clear c6b0
        try clear c6b1
        try clear c7
        try clear c7b0
        try clear c9
        try clear c9b0
        try clear c9b1
        try clear c10
        try clear c10b0
        try clear c11
        try clear c11b0
        try clear c11b1
        try clear c13
        try clear c13b0
        try clear c13b1
        try clear c14
        try clear c14b0
        try clear c14b1
        try clear c15
        try clear c15b0
        try clear p2
        try clear p3
        obtain ⟨kq, x1_11, rfl, HA, HJ11, ⟨mc11, rfl⟩⟩ := hcut
        cases kq with
        | zero => exact absurd HA.out (by simp [regexp_lazyFlag_match.j2])
        | succ kj11 =>
         have H := HA.out
         clear HA
         simp only [regexp_lazyFlag_match.j2] at H
         have HC16 := Aside0.mk H
         clear H
         go_upto_if 47 with (fail)
         go_cut [1] (fun v1 wc => ∃ (kq : Nat) (x1_15 : Int), v1 = .int .u8 x1_15 ∧ Aside0 (regexp_lazyFlag_match.j3 kq x1_15 (wrap32 (a0 / 4294967296)) (wrap32 (a0)) = some r) ∧ Aside0 (kq ≤ kj11) ∧ Drawn0 w wc)
         case first =>
          have H := HC16.out
          clear HC16
          by_cases c17 : (Go.bits .and .u8 x1_11 8) = 0
          ·rw [if_pos c17] at H
           have c17b0 : ((Go.bits .and .u8 x1_11 8) == 0) = true := beq_iff_eq.mpr c17
           have c17b1 : ((Go.bits .and .u8 x1_11 8) != 0) = false := bne_eq_false_iff_eq.mpr c17
           clear c17
           (first | rw [c17b0] | (simp only [i64_w, i32_w]; rw [c17b0]) | skip)
           have H' := Aside0.mk H
           clear H
           go_wp2
           go_meet
           case rel => exact ⟨_, (x1_11), (by first | rfl | (simp; done) | (simp [*]; done)), H', ⟨by have := HJ3.out; have := HJ7.out; have := HJ11.out; first | omega | exact Nat.le_refl _⟩, by repeat (first | exact Drawn0.refl _ | apply Drawn0.step)⟩
          ·rw [if_neg c17] at H
           have c17b0 : ((Go.bits .and .u8 x1_11 8) == 0) = false := beq_eq_false_iff_ne.mpr c17
           have c17b1 : ((Go.bits .and .u8 x1_11 8) != 0) = true := bne_iff_ne.mpr c17
           (first | rw [c17b0] | (simp only [i64_w, i32_w]; rw [c17b0]) | skip)
           by_cases c18 : (wrap32 (a0)) ≥ 0
           ·rw [if_pos c18] at H
            have c18b0 : decide (0 ≤ (wrap32 (a0))) = true := decide_eq_true c18
            clear c18
            obtain rfl := Option.some.inj H
            go_wp2
            go_ret
            exact ⟨by first | rfl | (simp; done) | (simp [*]; done), by repeat (first | exact Drawn0.refl _ | apply Drawn0.step)⟩
           ·rw [if_neg c18] at H
            have c18b0 : decide (0 ≤ (wrap32 (a0))) = false := decide_eq_false c18
            clear c18
            have H' := Aside0.mk H
            clear H
            go_wp2
            go_meet
            case rel => exact ⟨_, (Go.bits .andNot .u8 x1_11 8), (by first | rfl | (simp; done) | (simp [*]; done)), H', ⟨by have := HJ3.out; have := HJ7.out; have := HJ11.out; first | omega | exact Nat.le_refl _⟩, by repeat (first | exact Drawn0.refl _ | apply Drawn0.step)⟩
         case rest =>
          clear HC16
          try clear c1
          try clear p2
          try clear c3
          try clear c3b0
          try clear c3b1
          try clear p3
          try clear c5
          try clear c5b0
          try clear c5b1
          try clear c6
          try clear c6b0
          try clear c6b1
          try clear c7
          try clear c7b0
          try clear c9
          try clear c9b0
          try clear c9b1
          try clear c10
          try clear c10b0
          try clear c11
          try clear c11b0
          try clear c11b1
          try clear c13
          try clear c13b0
          try clear c13b1
          try clear c14
          try clear c14b0
          try clear c14b1
          try clear c15
          try clear c15b0
          try clear c17
          try clear c17b0
          try clear c17b1
          try clear c18
          try clear c18b0
          try clear p2
          try clear p3
          obtain ⟨kq, x1_15, rfl, HA, HJ15, ⟨mc15, rfl⟩⟩ := hcut
          cases kq with
          | zero => exact absurd HA.out (by simp [regexp_lazyFlag_match.j3])
          | succ kj15 =>
           have H := HA.out
           clear HA
           simp only [regexp_lazyFlag_match.j3] at H
           by_cases c19 : x1_15 = 0
           ·rw [if_pos c19] at H
            have c19b0 : (x1_15 == 0) = true := beq_iff_eq.mpr c19
            have c19b1 : (x1_15 != 0) = false := bne_eq_false_iff_eq.mpr c19
            clear c19
            obtain rfl := Option.some.inj H
            go_wp2
            go_ret
            exact ⟨by first | rfl | (simp; done) | (simp [*]; done), by repeat (first | exact Drawn0.refl _ | apply Drawn0.step)⟩
           ·rw [if_neg c19] at H
            have c19b0 : (x1_15 == 0) = false := beq_eq_false_iff_ne.mpr c19
            have c19b1 : (x1_15 != 0) = true := bne_iff_ne.mpr c19
            replace H := Option.bind_eq_some_iff.mp H
            obtain ⟨t188, A200, H⟩ := H
            replace H : ((regexpsyntax_IsWordChar.f (wrap32 (a0))).bind fun t189 => (if (t188 != t189) = true then (some ((Go.bits .andNot .u8 x1_15 16) == 0)) else (some ((Go.bits .andNot .u8 x1_15 32) == 0)))) = some r := H
            have A20 := Aside0.mk A200
            clear A200
            replace H := Option.bind_eq_some_iff.mp H
            obtain ⟨t189, A210, H⟩ := H
            replace H : (if (t188 != t189) = true then (some ((Go.bits .andNot .u8 x1_15 16) == 0)) else (some ((Go.bits .andNot .u8 x1_15 32) == 0))) = some r := H
            have A21 := Aside0.mk A210
            clear A210
            by_cases c22 : (t188 != t189) = true
            ·rw [if_pos c22] at H
             have c22b0 : (t188 != t189) = true := c22
             (try (have c22b1 : decide (t188 = t189) = false := by simpa using c22))
             (try (have c22b2 : (t188 == t189) = false := by simpa using c22))
             (try (have c22b3 : ¬ (t188 = t189) := by simpa using c22))
             clear c22
             obtain rfl := Option.some.inj H
             go_wp2_with (first | ((with_reducible refine gate_callee (f := 87) rfl ?_); refine goesL_ (some 55) rfl rfl Tryd.func87 (by kernel_rfl) rfl #[.int .i32 (wrap32 (a0 / 4294967296))] rfl (by (try simp only [List.map_toArray, List.map_cons, List.map_nil]); first | done | rfl | (simp only [List.length_drop, List.length_take]; rfl)) ?_; (with_reducible refine (regexpsyntax_IsWordChar.calls (wrap32 (a0 / 4294967296)) t188 _ A20.out).mono ?_); rintro e w' ⟨rfl, ⟨nd, rfl⟩⟩; refine ⟨_, rfl, ?_⟩) | ((with_reducible refine gate_callee (f := 87) rfl ?_); refine goesL_ (some 57) rfl rfl Tryd.func87 (by kernel_rfl) rfl #[.int .i32 (wrap32 (a0))] rfl (by (try simp only [List.map_toArray, List.map_cons, List.map_nil]); first | done | rfl | (simp only [List.length_drop, List.length_take]; rfl)) ?_; (with_reducible refine (regexpsyntax_IsWordChar.calls (wrap32 (a0)) t189 _ A21.out).mono ?_); rintro e w' ⟨rfl, ⟨nd, rfl⟩⟩; refine ⟨_, rfl, ?_⟩))
             go_ret
             exact ⟨by first | rfl | (simp; done) | (simp [*]; done), by repeat (first | exact Drawn0.refl _ | apply Drawn0.step)⟩
            ·rw [if_neg c22] at H
             have c22b0 : (t188 != t189) = false := by simpa using c22
             (try (have c22b1 : decide (t188 = t189) = true := by simpa using c22))
             (try (have c22b2 : (t188 == t189) = true := by simpa using c22))
             clear c22
             obtain rfl := Option.some.inj H
             go_wp2_with (first | ((with_reducible refine gate_callee (f := 87) rfl ?_); refine goesL_ (some 55) rfl rfl Tryd.func87 (by kernel_rfl) rfl #[.int .i32 (wrap32 (a0 / 4294967296))] rfl (by (try simp only [List.map_toArray, List.map_cons, List.map_nil]); first | done | rfl | (simp only [List.length_drop, List.length_take]; rfl)) ?_; (with_reducible refine (regexpsyntax_IsWordChar.calls (wrap32 (a0 / 4294967296)) t188 _ A20.out).mono ?_); rintro e w' ⟨rfl, ⟨nd, rfl⟩⟩; refine ⟨_, rfl, ?_⟩) | ((with_reducible refine gate_callee (f := 87) rfl ?_); refine goesL_ (some 57) rfl rfl Tryd.func87 (by kernel_rfl) rfl #[.int .i32 (wrap32 (a0))] rfl (by (try simp only [List.map_toArray, List.map_cons, List.map_nil]); first | done | rfl | (simp only [List.length_drop, List.length_take]; rfl)) ?_; (with_reducible refine (regexpsyntax_IsWordChar.calls (wrap32 (a0)) t189 _ A21.out).mono ?_); rintro e w' ⟨rfl, ⟨nd, rfl⟩⟩; refine ⟨_, rfl, ?_⟩))
             go_ret
             exact ⟨by first | rfl | (simp; done) | (simp [*]; done), by repeat (first | exact Drawn0.refl _ | apply Drawn0.step)⟩

-- NOT PRINTED: function 76 (regexp_machine_alloc)

-- NOT PRINTED: function 60 (regexp_machine_add)

-- NOT PRINTED: function 39 (regexp_zzMachine)

-- NOT PRINTED: function 78 (unicode_lookupCaseRange)

-- NOT PRINTED: function 79 (unicode_convertCase)

-- NOT PRINTED: function 63 (unicode_SimpleFold)

-- NOT PRINTED: function 77 (regexpsyntax_Inst_MatchRunePos)

-- NOT PRINTED: function 61 (regexpsyntax_Inst_MatchRune)

-- NOT PRINTED: function 41 (regexp_machine_step)

-- NOT PRINTED: function 42 (regexp_zzQueue)

-- NOT PRINTED: function 19 (regexp_ZZStep)

/-! ### impl_ints: function 20 -/
def impl_ints.l0 : Nat → List Int → List Int → Int → Int → Option (List Int)
 | 0, _, _, _, _ => none
 | k + 1, x3, x6, x7, x8 => if x8 < x7 then (if 0 ≤ x8 then (if x8 < (x6.length : Int) then (if x3.length < 17592186044416 then (impl_ints.l0 k (x3 ++ [wrap64 (rd x6 x8)]) x6 x7 (wrap64 (x8 + 1))) else (none)) else (none)) else (none)) else (some x3)
def impl_ints.f (k : Nat) (l0 : List Int) : Option (List Int) := impl_ints.l0 k ([] : List Int) l0 (l0.length : Int) 0
theorem impl_ints.mono_l : ∀ k, (∀ y0 y1 y2 y3, LeO (impl_ints.l0 k y0 y1 y2 y3) (impl_ints.l0 (k + 1) y0 y1 y2 y3))
 | 0 => fun _ _ _ _ r h => by simp [impl_ints.l0] at h
 | k + 1 => by
  have ih0 := impl_ints.mono_l k
  ·intro y0 y1 y2 y3
   unfold impl_ints.l0
   repeat' first
   | (with_reducible exact ih0 _ _ _ _)
   | (with_reducible exact LeO.refl _)
   | (with_reducible exact LeO.none _)
   | (with_reducible refine LeO.ite ?_ ?_)
   | (with_reducible refine LeO.bind ?_ (fun _ => ?_))
   | exact ih0 _ _ _ _
   | exact LeO.none _
   | refine LeO.ite ?_ ?_
   | refine LeO.bind ?_ (fun _ => ?_)
theorem impl_ints.mono : ∀ a0 k, LeO (impl_ints.f k a0) (impl_ints.f (k + 1) a0) := by
 intro a0 k
 have ih0 := impl_ints.mono_l k
 unfold impl_ints.f
 repeat' first
   | (with_reducible exact ih0 _ _ _ _)
   | (with_reducible exact LeO.refl _)
   | (with_reducible exact LeO.none _)
   | (with_reducible refine LeO.ite ?_ ?_)
   | (with_reducible refine LeO.bind ?_ (fun _ => ?_))
   | exact ih0 _ _ _ _
   | exact LeO.none _
   | refine LeO.ite ?_ ?_
   | refine LeO.bind ?_ (fun _ => ?_)
set_option maxHeartbeats 8000000 in
set_option maxRecDepth 100000 in
theorem impl_ints.calls (k : Nat) (A0 : Option Addr) (c0 : Nat) (l0 : List Int) (r : List Int) (w : World) (hr0 : Kd.C (Kd.int .u32) w A0 l0.length l0) (hc0 : l0.length ≤ c0) (h : impl_ints.f k l0 = some r) :
  Calls Tryd.prog 20 #[.slice A0 l0.length c0] w fun e w' => ∃ v0_ : Value, e = .returned (v0_) ∧ Kd.R (Kd.int .i64) 3 w' w.heap.size (fun _ => True) v0_ r ∧ Below w.heap.size w w' := by
 have HR0 := Aside0.mk hr0
 have HC0 := Aside0.mk hc0
 clear hr0 hc0
 have HB := Aside0.mk (Below.refl w.heap.size w)
 have H : (impl_ints.l0 k ([] : List Int) l0 (l0.length : Int) 0) = some r := h
 clear h
 have H' := Aside0.mk H
 clear H
 go_enter Tryd.func20, Tryd.ntmps20
 go_wp2
 go_loopg [3, 8] k (fun kq v3 v8 w' => ∃ (x3_1 : List Int) (x8_1 : Int), v8 = .int .i64 x8_1 ∧ Aside0 (impl_ints.l0 kq x3_1 l0 (l0.length : Int) x8_1 = some r) ∧ Aside0 (kq ≤ k) ∧ Aside0 (Kd.R (Kd.int .i64) 3 w' w.heap.size (fun _ => True) v3 x3_1) ∧ Aside0 (Below w.heap.size w w'))
 case atStart => exact ⟨(([] : List Int)), (0), (by first | rfl | (simp; done) | (simp [*]; done)), H', ⟨Nat.le_refl _⟩, ⟨by first | exact Kd.R_nil _ _ _ _ _ | exact Kd.N_nil _ _ _ _ _ | exact Kd.V_nil _ _ _ _ _ | exact Kd.Q_nil _ _ _ _ _ | exact Kd.S_nil _ _ _ _ _⟩, ⟨by repeat (first | (with_reducible first | exact HB.out | apply below_alloc | apply pw_below_drewN | apply below_drew1) | exact HB.out)⟩⟩
 case round =>
  clear H'
  obtain ⟨x3_1, x8_1, rfl, HA, HK1, HO_3, HB⟩ := hrel
  cases gk with
  | zero => exact absurd HA.out (by simp [impl_ints.l0])
  | succ k1 =>
   have H := HA.out
   clear HA
   simp only [impl_ints.l0] at H
   by_cases c2 : x8_1 < (l0.length : Int)
   ·rw [if_pos c2] at H
    have c2b0 : decide (x8_1 < (l0.length : Int)) = true := decide_eq_true c2
    clear c2
    by_cases c3 : 0 ≤ x8_1
    ·rw [if_pos c3] at H
     have c3b0 : decide (0 ≤ x8_1) = true := decide_eq_true c3
     clear c3
     by_cases c4 : x8_1 < (l0.length : Int)
     ·rw [if_pos c4] at H
      have c4b0 : decide (x8_1 < (l0.length : Int)) = true := decide_eq_true c4
      clear c4
      by_cases c5 : x3_1.length < 17592186044416
      ·rw [if_pos c5] at H
       have LMc5 := Aside0.mk c5
       clear c5
       obtain ⟨y192, hy192⟩ : ∃ y_ : List Int, y_ = (x3_1 ++ [wrap64 (rd l0 x8_1)]) := ⟨_, rfl⟩
       replace H : (impl_ints.l0 k1 y192 l0 (l0.length : Int) (wrap64 (x8_1 + 1))) = some r := by first | (rw [hy192]; with_reducible exact H) | (have H2_ := (Option.bind_some _ _).symm.trans H; rw [hy192]; with_reducible exact H2_) | (have H2_ := (Option.bind_some _ _).symm.trans H; with_reducible exact H2_) | with_reducible exact H | (rw [hy192]; exact H) | exact H
       have Ny192 := Aside0.mk hy192
       clear hy192
       have H' := Aside0.mk H
       clear H
       have p191 : 0 ≤ (x8_1 : Int) := of_decide_eq_true (by first | (with_reducible assumption) | assumption)
       have q191 : x8_1 < (l0.length : Int) := of_decide_eq_true (by first | (with_reducible assumption) | assumption)
       obtain ⟨ad191, e191, hx191_0⟩ := Kd.at_int HR0.out x8_1 p191 q191
       cases e191
       replace hx191_0 := (HB.out.cell (World.block_lt_of_cell? w _ hx191_0)).trans hx191_0
       replace p191 := eq_true p191
       replace q191 := eq_true q191
       go_wp2_with (first | ((with_reducible refine gate_builtin (b := .append) (xs := #[.tmp 12, .tmp 15]) rfl ?_); at_builtin; refine Kd.R_append (Kd.int .i64) (w0 := w) w.heap.size rfl (.tmp 12) (.tmp 15) 25 3 (.int .i64 0) 8 rfl Tryd.underlying25 info3 rfl (by decide) (by omega) u3 x3_1 (wrap64 (rd l0 x8_1)) [.int .i64 (wrap64 (rd l0 x8_1))] (fun _ => True) (fun _ => False) rfl rfl ?aP (fun _ hk => hk.elim) ?aF ?aO ?aB ?aS ?aL ?_; (case aP => exact rfl); (case aB => exact (by repeat (first | (with_reducible first | exact HB.out | apply below_alloc | apply pw_below_drewN | apply below_drew1) | exact HB.out))); (case aF => exact (fun _ _ => trivial)); (case aO => exact (by (with_reducible repeat (first | apply Kd.R_alloc | apply Kd.R_drewN | apply Kd.R_drew)); exact HO_3.out)); (case aS => exact (below_size (by repeat (first | (with_reducible first | exact HB.out | apply below_alloc | apply pw_below_drewN | apply below_drew1) | exact HB.out)))); (case aL => have := LMc5.out; omega); intro v193 w6 ho hb hg hat; rw [← Ny192.out] at ho; have n0_ := Aside0.mk (hb); have n1_ := Aside0.mk (ho); clear HB; clear HO_3; have HB := n0_; have HO194 := n1_; clear n0_ n1_; clear ho hb hg hat))
       go_roundg k1
       case measure => have := HK1.out; omega
       case rel => exact ⟨(y192), (wrap64 (x8_1 + 1)), (by first | rfl | (simp; done) | (simp [*]; done)), H', ⟨by have := HK1.out; omega⟩, ⟨by (with_reducible repeat (first | apply Kd.R_alloc | apply Kd.R_drewN | apply Kd.R_drew)); exact HO194.out⟩, ⟨by repeat (first | (with_reducible first | exact HB.out | apply below_alloc | apply pw_below_drewN | apply below_drew1) | exact HB.out)⟩⟩
      ·rw [if_neg c5] at H
       exact absurd H (by simp)
     ·rw [if_neg c4] at H
      exact absurd H (by simp)
    ·rw [if_neg c3] at H
     exact absurd H (by simp)
   ·rw [if_neg c2] at H
    have c2b0 : decide (x8_1 < (l0.length : Int)) = false := decide_eq_false c2
    clear c2
    obtain rfl := Option.some.inj H
    go_wp2
    go_ret
    exact ⟨_, by first | rfl | (simp [errW_none, errW_some] <;> rfl) | (simp [*, errW_none, errW_some] <;> rfl), by (with_reducible repeat (first | apply Kd.R_alloc | apply Kd.R_drewN | apply Kd.R_drew)); exact HO_3.out, by repeat (first | (with_reducible first | exact HB.out | apply below_alloc | apply pw_below_drewN | apply below_drew1) | exact HB.out)⟩

-- NOT PRINTED: function 7 (impl_PgStep)

/-! ### spec_progWaits: function 22 -/
def spec_progWaits.f (a0_0 : Int) (a0_1 : Int) (a0_2 : Int) (l0_3 : List Int) : Option (Bool) := if a0_0 = 0 then (some false) else (if a0_0 = 2 then (some false) else (if a0_0 = 6 then (some false) else (if a0_0 = 3 then (some false) else (if a0_0 = 5 then (some false) else (some true)))))
set_option maxHeartbeats 8000000 in
set_option maxRecDepth 100000 in
theorem spec_progWaits.calls (a0_0 : Int) (a0_1 : Int) (a0_2 : Int) (A0_3 : Option Addr) (c0_3 : Nat) (l0_3 : List Int) (r : Bool) (w : World) (hr0_3 : Kd.C (Kd.int .i32) w A0_3 l0_3.length l0_3) (hc0_3 : l0_3.length ≤ c0_3) (h : spec_progWaits.f a0_0 a0_1 a0_2 l0_3 = some r) :
  Calls Tryd.prog 22 #[.agg #[.int .i64 a0_0, .int .i64 a0_1, .int .i64 a0_2, .slice A0_3 l0_3.length c0_3]] w fun e w' => e = .returned (.bool r) ∧ Below w.heap.size w w' := by
 have hu55 := Tryd.underlying55
 have HR0_3 := Aside0.mk hr0_3
 have HC0_3 := Aside0.mk hc0_3
 clear hr0_3 hc0_3
 have HB := Aside0.mk (Below.refl w.heap.size w)
 have H : (if a0_0 = 0 then (some false) else (if a0_0 = 2 then (some false) else (if a0_0 = 6 then (some false) else (if a0_0 = 3 then (some false) else (if a0_0 = 5 then (some false) else (some true)))))) = some r := h
 clear h
 by_cases c2 : a0_0 = 0
 ·rw [if_pos c2] at H
  have c2b0 : (a0_0 == 0) = true := beq_iff_eq.mpr c2
  have c2b1 : (a0_0 != 0) = false := bne_eq_false_iff_eq.mpr c2
  clear c2
  obtain rfl := Option.some.inj H
  go_enter Tryd.func22, Tryd.ntmps22
  go_wp2_with (first | ((with_reducible refine gate_dst (N := 1) rfl ?_); refine box_event ?hg (N := 1) ?hd (cs := #[.int .i64 a0_0, .int .i64 a0_1, .int .i64 a0_2, .slice A0_3 l0_3.length c0_3]) (t := 55) ?hr ?_; (case hd => rfl); (case hg => rfl); (case hr => first | (go_simp; done) | (go_simp; rfl)); intro gb196 hg w3 hbox hb; have n0_ := Aside0.mk (below_step (by repeat (first | (with_reducible first | exact HB.out | apply below_alloc | apply pw_below_drewN | apply below_drew1) | exact HB.out)) hb); have n1_ := Aside0.mk (hbox); have n2_ := Aside0.mk ((by rw [hg]; exact (below_size (by repeat (first | (with_reducible first | exact HB.out | apply below_alloc | apply pw_below_drewN | apply below_drew1) | exact HB.out))) : w.heap.size ≤ gb196)); have n3_ := Aside0.mk ((by rw [hg]; exact (below_size (by repeat (first | (with_reducible first | exact HB.out | apply below_alloc | apply pw_below_drewN | apply below_drew1) | exact HB.out))) : w.heap.size ≤ gb196)); clear HB; have HB := n0_; have BK196 := n1_; have GW196 := n2_; have GE196 := n3_; clear n0_ n1_ n2_ n3_; clear hb hbox hg; have hcz4_0 : w3.cell? ⟨gb196, 0, none⟩ = some (.int .i64 a0_0) := (blk_cell BK196.out 0).trans rfl; have hcz4_1 : w3.cell? ⟨gb196, 1, none⟩ = some (.int .i64 a0_1) := (blk_cell BK196.out 1).trans rfl; have hcz4_2 : w3.cell? ⟨gb196, 2, none⟩ = some (.int .i64 a0_2) := (blk_cell BK196.out 2).trans rfl; have hcz4_3 : w3.cell? ⟨gb196, 3, none⟩ = some (.slice A0_3 l0_3.length c0_3) := (blk_cell BK196.out 3).trans rfl; have hfz4_0 := blk_frozen BK196.out 0; have hfz4_1 := blk_frozen BK196.out 1; have hfz4_2 := blk_frozen BK196.out 2; have hfz4_3 := blk_frozen BK196.out 3))
  go_ret
  exact ⟨by first | rfl | (simp [errW_none, errW_some] <;> rfl) | (simp [*, errW_none, errW_some] <;> rfl), by repeat (first | (with_reducible first | exact HB.out | apply below_alloc | apply pw_below_drewN | apply below_drew1 | refine below_set ?_ GE196.out) | exact HB.out)⟩
 ·rw [if_neg c2] at H
  have c2b0 : (a0_0 == 0) = false := beq_eq_false_iff_ne.mpr c2
  have c2b1 : (a0_0 != 0) = true := bne_iff_ne.mpr c2
  by_cases c5 : a0_0 = 2
  ·rw [if_pos c5] at H
   have c5b0 : (a0_0 == 2) = true := beq_iff_eq.mpr c5
   have c5b1 : (a0_0 != 2) = false := bne_eq_false_iff_eq.mpr c5
   clear c5
   obtain rfl := Option.some.inj H
   go_enter Tryd.func22, Tryd.ntmps22
   go_wp2_with (first | ((with_reducible refine gate_dst (N := 1) rfl ?_); refine box_event ?hg (N := 1) ?hd (cs := #[.int .i64 a0_0, .int .i64 a0_1, .int .i64 a0_2, .slice A0_3 l0_3.length c0_3]) (t := 55) ?hr ?_; (case hd => rfl); (case hg => rfl); (case hr => first | (go_simp; done) | (go_simp; rfl)); intro gb196 hg w6 hbox hb; have n0_ := Aside0.mk (below_step (by repeat (first | (with_reducible first | exact HB.out | apply below_alloc | apply pw_below_drewN | apply below_drew1) | exact HB.out)) hb); have n1_ := Aside0.mk (hbox); have n2_ := Aside0.mk ((by rw [hg]; exact (below_size (by repeat (first | (with_reducible first | exact HB.out | apply below_alloc | apply pw_below_drewN | apply below_drew1) | exact HB.out))) : w.heap.size ≤ gb196)); have n3_ := Aside0.mk ((by rw [hg]; exact (below_size (by repeat (first | (with_reducible first | exact HB.out | apply below_alloc | apply pw_below_drewN | apply below_drew1) | exact HB.out))) : w.heap.size ≤ gb196)); clear HB; have HB := n0_; have BK196 := n1_; have GW196 := n2_; have GE196 := n3_; clear n0_ n1_ n2_ n3_; clear hb hbox hg; have hcz7_0 : w6.cell? ⟨gb196, 0, none⟩ = some (.int .i64 a0_0) := (blk_cell BK196.out 0).trans rfl; have hcz7_1 : w6.cell? ⟨gb196, 1, none⟩ = some (.int .i64 a0_1) := (blk_cell BK196.out 1).trans rfl; have hcz7_2 : w6.cell? ⟨gb196, 2, none⟩ = some (.int .i64 a0_2) := (blk_cell BK196.out 2).trans rfl; have hcz7_3 : w6.cell? ⟨gb196, 3, none⟩ = some (.slice A0_3 l0_3.length c0_3) := (blk_cell BK196.out 3).trans rfl; have hfz7_0 := blk_frozen BK196.out 0; have hfz7_1 := blk_frozen BK196.out 1; have hfz7_2 := blk_frozen BK196.out 2; have hfz7_3 := blk_frozen BK196.out 3))
   go_ret
   exact ⟨by first | rfl | (simp [errW_none, errW_some] <;> rfl) | (simp [*, errW_none, errW_some] <;> rfl), by repeat (first | (with_reducible first | exact HB.out | apply below_alloc | apply pw_below_drewN | apply below_drew1 | refine below_set ?_ GE196.out) | exact HB.out)⟩
  ·rw [if_neg c5] at H
   have c5b0 : (a0_0 == 2) = false := beq_eq_false_iff_ne.mpr c5
   have c5b1 : (a0_0 != 2) = true := bne_iff_ne.mpr c5
   by_cases c8 : a0_0 = 6
   ·rw [if_pos c8] at H
    have c8b0 : (a0_0 == 6) = true := beq_iff_eq.mpr c8
    have c8b1 : (a0_0 != 6) = false := bne_eq_false_iff_eq.mpr c8
    clear c8
    obtain rfl := Option.some.inj H
    go_enter Tryd.func22, Tryd.ntmps22
    go_wp2_with (first | ((with_reducible refine gate_dst (N := 1) rfl ?_); refine box_event ?hg (N := 1) ?hd (cs := #[.int .i64 a0_0, .int .i64 a0_1, .int .i64 a0_2, .slice A0_3 l0_3.length c0_3]) (t := 55) ?hr ?_; (case hd => rfl); (case hg => rfl); (case hr => first | (go_simp; done) | (go_simp; rfl)); intro gb196 hg w9 hbox hb; have n0_ := Aside0.mk (below_step (by repeat (first | (with_reducible first | exact HB.out | apply below_alloc | apply pw_below_drewN | apply below_drew1) | exact HB.out)) hb); have n1_ := Aside0.mk (hbox); have n2_ := Aside0.mk ((by rw [hg]; exact (below_size (by repeat (first | (with_reducible first | exact HB.out | apply below_alloc | apply pw_below_drewN | apply below_drew1) | exact HB.out))) : w.heap.size ≤ gb196)); have n3_ := Aside0.mk ((by rw [hg]; exact (below_size (by repeat (first | (with_reducible first | exact HB.out | apply below_alloc | apply pw_below_drewN | apply below_drew1) | exact HB.out))) : w.heap.size ≤ gb196)); clear HB; have HB := n0_; have BK196 := n1_; have GW196 := n2_; have GE196 := n3_; clear n0_ n1_ n2_ n3_; clear hb hbox hg; have hcz10_0 : w9.cell? ⟨gb196, 0, none⟩ = some (.int .i64 a0_0) := (blk_cell BK196.out 0).trans rfl; have hcz10_1 : w9.cell? ⟨gb196, 1, none⟩ = some (.int .i64 a0_1) := (blk_cell BK196.out 1).trans rfl; have hcz10_2 : w9.cell? ⟨gb196, 2, none⟩ = some (.int .i64 a0_2) := (blk_cell BK196.out 2).trans rfl; have hcz10_3 : w9.cell? ⟨gb196, 3, none⟩ = some (.slice A0_3 l0_3.length c0_3) := (blk_cell BK196.out 3).trans rfl; have hfz10_0 := blk_frozen BK196.out 0; have hfz10_1 := blk_frozen BK196.out 1; have hfz10_2 := blk_frozen BK196.out 2; have hfz10_3 := blk_frozen BK196.out 3))
    go_ret
    exact ⟨by first | rfl | (simp [errW_none, errW_some] <;> rfl) | (simp [*, errW_none, errW_some] <;> rfl), by repeat (first | (with_reducible first | exact HB.out | apply below_alloc | apply pw_below_drewN | apply below_drew1 | refine below_set ?_ GE196.out) | exact HB.out)⟩
   ·rw [if_neg c8] at H
    have c8b0 : (a0_0 == 6) = false := beq_eq_false_iff_ne.mpr c8
    have c8b1 : (a0_0 != 6) = true := bne_iff_ne.mpr c8
    by_cases c11 : a0_0 = 3
    ·rw [if_pos c11] at H
     have c11b0 : (a0_0 == 3) = true := beq_iff_eq.mpr c11
     have c11b1 : (a0_0 != 3) = false := bne_eq_false_iff_eq.mpr c11
     clear c11
     obtain rfl := Option.some.inj H
     go_enter Tryd.func22, Tryd.ntmps22
     go_wp2_with (first | ((with_reducible refine gate_dst (N := 1) rfl ?_); refine box_event ?hg (N := 1) ?hd (cs := #[.int .i64 a0_0, .int .i64 a0_1, .int .i64 a0_2, .slice A0_3 l0_3.length c0_3]) (t := 55) ?hr ?_; (case hd => rfl); (case hg => rfl); (case hr => first | (go_simp; done) | (go_simp; rfl)); intro gb196 hg w12 hbox hb; have n0_ := Aside0.mk (below_step (by repeat (first | (with_reducible first | exact HB.out | apply below_alloc | apply pw_below_drewN | apply below_drew1) | exact HB.out)) hb); have n1_ := Aside0.mk (hbox); have n2_ := Aside0.mk ((by rw [hg]; exact (below_size (by repeat (first | (with_reducible first | exact HB.out | apply below_alloc | apply pw_below_drewN | apply below_drew1) | exact HB.out))) : w.heap.size ≤ gb196)); have n3_ := Aside0.mk ((by rw [hg]; exact (below_size (by repeat (first | (with_reducible first | exact HB.out | apply below_alloc | apply pw_below_drewN | apply below_drew1) | exact HB.out))) : w.heap.size ≤ gb196)); clear HB; have HB := n0_; have BK196 := n1_; have GW196 := n2_; have GE196 := n3_; clear n0_ n1_ n2_ n3_; clear hb hbox hg; have hcz13_0 : w12.cell? ⟨gb196, 0, none⟩ = some (.int .i64 a0_0) := (blk_cell BK196.out 0).trans rfl; have hcz13_1 : w12.cell? ⟨gb196, 1, none⟩ = some (.int .i64 a0_1) := (blk_cell BK196.out 1).trans rfl; have hcz13_2 : w12.cell? ⟨gb196, 2, none⟩ = some (.int .i64 a0_2) := (blk_cell BK196.out 2).trans rfl; have hcz13_3 : w12.cell? ⟨gb196, 3, none⟩ = some (.slice A0_3 l0_3.length c0_3) := (blk_cell BK196.out 3).trans rfl; have hfz13_0 := blk_frozen BK196.out 0; have hfz13_1 := blk_frozen BK196.out 1; have hfz13_2 := blk_frozen BK196.out 2; have hfz13_3 := blk_frozen BK196.out 3))
     go_ret
     exact ⟨by first | rfl | (simp [errW_none, errW_some] <;> rfl) | (simp [*, errW_none, errW_some] <;> rfl), by repeat (first | (with_reducible first | exact HB.out | apply below_alloc | apply pw_below_drewN | apply below_drew1 | refine below_set ?_ GE196.out) | exact HB.out)⟩
    ·rw [if_neg c11] at H
     have c11b0 : (a0_0 == 3) = false := beq_eq_false_iff_ne.mpr c11
     have c11b1 : (a0_0 != 3) = true := bne_iff_ne.mpr c11
     by_cases c14 : a0_0 = 5
     ·rw [if_pos c14] at H
      have c14b0 : (a0_0 == 5) = true := beq_iff_eq.mpr c14
      have c14b1 : (a0_0 != 5) = false := bne_eq_false_iff_eq.mpr c14
      clear c14
      obtain rfl := Option.some.inj H
      go_enter Tryd.func22, Tryd.ntmps22
      go_wp2_with (first | ((with_reducible refine gate_dst (N := 1) rfl ?_); refine box_event ?hg (N := 1) ?hd (cs := #[.int .i64 a0_0, .int .i64 a0_1, .int .i64 a0_2, .slice A0_3 l0_3.length c0_3]) (t := 55) ?hr ?_; (case hd => rfl); (case hg => rfl); (case hr => first | (go_simp; done) | (go_simp; rfl)); intro gb196 hg w15 hbox hb; have n0_ := Aside0.mk (below_step (by repeat (first | (with_reducible first | exact HB.out | apply below_alloc | apply pw_below_drewN | apply below_drew1) | exact HB.out)) hb); have n1_ := Aside0.mk (hbox); have n2_ := Aside0.mk ((by rw [hg]; exact (below_size (by repeat (first | (with_reducible first | exact HB.out | apply below_alloc | apply pw_below_drewN | apply below_drew1) | exact HB.out))) : w.heap.size ≤ gb196)); have n3_ := Aside0.mk ((by rw [hg]; exact (below_size (by repeat (first | (with_reducible first | exact HB.out | apply below_alloc | apply pw_below_drewN | apply below_drew1) | exact HB.out))) : w.heap.size ≤ gb196)); clear HB; have HB := n0_; have BK196 := n1_; have GW196 := n2_; have GE196 := n3_; clear n0_ n1_ n2_ n3_; clear hb hbox hg; have hcz16_0 : w15.cell? ⟨gb196, 0, none⟩ = some (.int .i64 a0_0) := (blk_cell BK196.out 0).trans rfl; have hcz16_1 : w15.cell? ⟨gb196, 1, none⟩ = some (.int .i64 a0_1) := (blk_cell BK196.out 1).trans rfl; have hcz16_2 : w15.cell? ⟨gb196, 2, none⟩ = some (.int .i64 a0_2) := (blk_cell BK196.out 2).trans rfl; have hcz16_3 : w15.cell? ⟨gb196, 3, none⟩ = some (.slice A0_3 l0_3.length c0_3) := (blk_cell BK196.out 3).trans rfl; have hfz16_0 := blk_frozen BK196.out 0; have hfz16_1 := blk_frozen BK196.out 1; have hfz16_2 := blk_frozen BK196.out 2; have hfz16_3 := blk_frozen BK196.out 3))
      go_ret
      exact ⟨by first | rfl | (simp [errW_none, errW_some] <;> rfl) | (simp [*, errW_none, errW_some] <;> rfl), by repeat (first | (with_reducible first | exact HB.out | apply below_alloc | apply pw_below_drewN | apply below_drew1 | refine below_set ?_ GE196.out) | exact HB.out)⟩
     ·rw [if_neg c14] at H
      have c14b0 : (a0_0 == 5) = false := beq_eq_false_iff_ne.mpr c14
      have c14b1 : (a0_0 != 5) = true := bne_iff_ne.mpr c14
      obtain rfl := Option.some.inj H
      go_enter Tryd.func22, Tryd.ntmps22
      go_wp2_with (first | ((with_reducible refine gate_dst (N := 1) rfl ?_); refine box_event ?hg (N := 1) ?hd (cs := #[.int .i64 a0_0, .int .i64 a0_1, .int .i64 a0_2, .slice A0_3 l0_3.length c0_3]) (t := 55) ?hr ?_; (case hd => rfl); (case hg => rfl); (case hr => first | (go_simp; done) | (go_simp; rfl)); intro gb196 hg w17 hbox hb; have n0_ := Aside0.mk (below_step (by repeat (first | (with_reducible first | exact HB.out | apply below_alloc | apply pw_below_drewN | apply below_drew1) | exact HB.out)) hb); have n1_ := Aside0.mk (hbox); have n2_ := Aside0.mk ((by rw [hg]; exact (below_size (by repeat (first | (with_reducible first | exact HB.out | apply below_alloc | apply pw_below_drewN | apply below_drew1) | exact HB.out))) : w.heap.size ≤ gb196)); have n3_ := Aside0.mk ((by rw [hg]; exact (below_size (by repeat (first | (with_reducible first | exact HB.out | apply below_alloc | apply pw_below_drewN | apply below_drew1) | exact HB.out))) : w.heap.size ≤ gb196)); clear HB; have HB := n0_; have BK196 := n1_; have GW196 := n2_; have GE196 := n3_; clear n0_ n1_ n2_ n3_; clear hb hbox hg; have hcz18_0 : w17.cell? ⟨gb196, 0, none⟩ = some (.int .i64 a0_0) := (blk_cell BK196.out 0).trans rfl; have hcz18_1 : w17.cell? ⟨gb196, 1, none⟩ = some (.int .i64 a0_1) := (blk_cell BK196.out 1).trans rfl; have hcz18_2 : w17.cell? ⟨gb196, 2, none⟩ = some (.int .i64 a0_2) := (blk_cell BK196.out 2).trans rfl; have hcz18_3 : w17.cell? ⟨gb196, 3, none⟩ = some (.slice A0_3 l0_3.length c0_3) := (blk_cell BK196.out 3).trans rfl; have hfz18_0 := blk_frozen BK196.out 0; have hfz18_1 := blk_frozen BK196.out 1; have hfz18_2 := blk_frozen BK196.out 2; have hfz18_3 := blk_frozen BK196.out 3))
      go_ret
      exact ⟨by first | rfl | (simp [errW_none, errW_some] <;> rfl) | (simp [*, errW_none, errW_some] <;> rfl), by repeat (first | (with_reducible first | exact HB.out | apply below_alloc | apply pw_below_drewN | apply below_drew1 | refine below_set ?_ GE196.out) | exact HB.out)⟩

/-! ### spec_reWord: function 62 -/
def spec_reWord.f (a0 : Int) : Option (Bool) := if 97 ≤ a0 then (if a0 ≤ 122 then (some true) else (if 65 ≤ a0 then (if a0 ≤ 90 then (some true) else (if 48 ≤ a0 then (if a0 ≤ 57 then (some true) else (some (a0 == 95))) else (some (a0 == 95)))) else (if 48 ≤ a0 then (if a0 ≤ 57 then (some true) else (some (a0 == 95))) else (some (a0 == 95))))) else (if 65 ≤ a0 then (if a0 ≤ 90 then (some true) else (if 48 ≤ a0 then (if a0 ≤ 57 then (some true) else (some (a0 == 95))) else (some (a0 == 95)))) else (if 48 ≤ a0 then (if a0 ≤ 57 then (some true) else (some (a0 == 95))) else (some (a0 == 95))))
set_option maxHeartbeats 8000000 in
set_option maxRecDepth 100000 in
theorem spec_reWord.calls (a0 : Int) (r : Bool) (w : World) (h : spec_reWord.f a0 = some r) :
  Calls Tryd.prog 62 #[.int .i32 a0] w fun e w' => e = .returned (.bool r) ∧ Drawn0 w w' := by
 have H : (if 97 ≤ a0 then (if a0 ≤ 122 then (some true) else (if 65 ≤ a0 then (if a0 ≤ 90 then (some true) else (if 48 ≤ a0 then (if a0 ≤ 57 then (some true) else (some (a0 == 95))) else (some (a0 == 95)))) else (if 48 ≤ a0 then (if a0 ≤ 57 then (some true) else (some (a0 == 95))) else (some (a0 == 95))))) else (if 65 ≤ a0 then (if a0 ≤ 90 then (some true) else (if 48 ≤ a0 then (if a0 ≤ 57 then (some true) else (some (a0 == 95))) else (some (a0 == 95)))) else (if 48 ≤ a0 then (if a0 ≤ 57 then (some true) else (some (a0 == 95))) else (some (a0 == 95))))) = some r := h
 clear h
 by_cases c2 : 97 ≤ a0
 ·rw [if_pos c2] at H
  have c2b0 : decide (97 ≤ a0) = true := decide_eq_true c2
  clear c2
  by_cases c3 : a0 ≤ 122
  ·rw [if_pos c3] at H
   have c3b0 : decide (a0 ≤ 122) = true := decide_eq_true c3
   clear c3
   obtain rfl := Option.some.inj H
   go_enter Tryd.func62, Tryd.ntmps62
   go_wp2
   go_ret
   exact ⟨by first | rfl | (simp; done) | (simp [*]; done), by repeat (first | exact Drawn0.refl _ | apply Drawn0.step)⟩
  ·rw [if_neg c3] at H
   have c3b0 : decide (a0 ≤ 122) = false := decide_eq_false c3
   clear c3
   by_cases c4 : 65 ≤ a0
   ·rw [if_pos c4] at H
    have c4b0 : decide (65 ≤ a0) = true := decide_eq_true c4
    clear c4
    by_cases c5 : a0 ≤ 90
    ·rw [if_pos c5] at H
     have c5b0 : decide (a0 ≤ 90) = true := decide_eq_true c5
     clear c5
     obtain rfl := Option.some.inj H
     go_enter Tryd.func62, Tryd.ntmps62
     go_wp2
     go_ret
     exact ⟨by first | rfl | (simp; done) | (simp [*]; done), by repeat (first | exact Drawn0.refl _ | apply Drawn0.step)⟩
    ·rw [if_neg c5] at H
     have c5b0 : decide (a0 ≤ 90) = false := decide_eq_false c5
     clear c5
     by_cases c6 : 48 ≤ a0
     ·rw [if_pos c6] at H
      have c6b0 : decide (48 ≤ a0) = true := decide_eq_true c6
      clear c6
      by_cases c7 : a0 ≤ 57
      ·rw [if_pos c7] at H
       have c7b0 : decide (a0 ≤ 57) = true := decide_eq_true c7
       clear c7
       obtain rfl := Option.some.inj H
       go_enter Tryd.func62, Tryd.ntmps62
       go_wp2
       go_ret
       exact ⟨by first | rfl | (simp; done) | (simp [*]; done), by repeat (first | exact Drawn0.refl _ | apply Drawn0.step)⟩
      ·rw [if_neg c7] at H
       have c7b0 : decide (a0 ≤ 57) = false := decide_eq_false c7
       clear c7
       obtain rfl := Option.some.inj H
       go_enter Tryd.func62, Tryd.ntmps62
       go_wp2
       go_ret
       exact ⟨by first | rfl | (simp; done) | (simp [*]; done), by repeat (first | exact Drawn0.refl _ | apply Drawn0.step)⟩
     ·rw [if_neg c6] at H
      have c6b0 : decide (48 ≤ a0) = false := decide_eq_false c6
      clear c6
      obtain rfl := Option.some.inj H
      go_enter Tryd.func62, Tryd.ntmps62
      go_wp2
      go_ret
      exact ⟨by first | rfl | (simp; done) | (simp [*]; done), by repeat (first | exact Drawn0.refl _ | apply Drawn0.step)⟩
   ·rw [if_neg c4] at H
    have c4b0 : decide (65 ≤ a0) = false := decide_eq_false c4
    clear c4
    by_cases c8 : 48 ≤ a0
    ·rw [if_pos c8] at H
     have c8b0 : decide (48 ≤ a0) = true := decide_eq_true c8
     clear c8
     by_cases c9 : a0 ≤ 57
     ·rw [if_pos c9] at H
      have c9b0 : decide (a0 ≤ 57) = true := decide_eq_true c9
      clear c9
      obtain rfl := Option.some.inj H
      go_enter Tryd.func62, Tryd.ntmps62
      go_wp2
      go_ret
      exact ⟨by first | rfl | (simp; done) | (simp [*]; done), by repeat (first | exact Drawn0.refl _ | apply Drawn0.step)⟩
     ·rw [if_neg c9] at H
      have c9b0 : decide (a0 ≤ 57) = false := decide_eq_false c9
      clear c9
      obtain rfl := Option.some.inj H
      go_enter Tryd.func62, Tryd.ntmps62
      go_wp2
      go_ret
      exact ⟨by first | rfl | (simp; done) | (simp [*]; done), by repeat (first | exact Drawn0.refl _ | apply Drawn0.step)⟩
    ·rw [if_neg c8] at H
     have c8b0 : decide (48 ≤ a0) = false := decide_eq_false c8
     clear c8
     obtain rfl := Option.some.inj H
     go_enter Tryd.func62, Tryd.ntmps62
     go_wp2
     go_ret
     exact ⟨by first | rfl | (simp; done) | (simp [*]; done), by repeat (first | exact Drawn0.refl _ | apply Drawn0.step)⟩
 ·rw [if_neg c2] at H
  have c2b0 : decide (97 ≤ a0) = false := decide_eq_false c2
  clear c2
  by_cases c10 : 65 ≤ a0
  ·rw [if_pos c10] at H
   have c10b0 : decide (65 ≤ a0) = true := decide_eq_true c10
   clear c10
   by_cases c11 : a0 ≤ 90
   ·rw [if_pos c11] at H
    have c11b0 : decide (a0 ≤ 90) = true := decide_eq_true c11
    clear c11
    obtain rfl := Option.some.inj H
    go_enter Tryd.func62, Tryd.ntmps62
    go_wp2
    go_ret
    exact ⟨by first | rfl | (simp; done) | (simp [*]; done), by repeat (first | exact Drawn0.refl _ | apply Drawn0.step)⟩
   ·rw [if_neg c11] at H
    have c11b0 : decide (a0 ≤ 90) = false := decide_eq_false c11
    clear c11
    by_cases c12 : 48 ≤ a0
    ·rw [if_pos c12] at H
     have c12b0 : decide (48 ≤ a0) = true := decide_eq_true c12
     clear c12
     by_cases c13 : a0 ≤ 57
     ·rw [if_pos c13] at H
      have c13b0 : decide (a0 ≤ 57) = true := decide_eq_true c13
      clear c13
      obtain rfl := Option.some.inj H
      go_enter Tryd.func62, Tryd.ntmps62
      go_wp2
      go_ret
      exact ⟨by first | rfl | (simp; done) | (simp [*]; done), by repeat (first | exact Drawn0.refl _ | apply Drawn0.step)⟩
     ·rw [if_neg c13] at H
      have c13b0 : decide (a0 ≤ 57) = false := decide_eq_false c13
      clear c13
      obtain rfl := Option.some.inj H
      go_enter Tryd.func62, Tryd.ntmps62
      go_wp2
      go_ret
      exact ⟨by first | rfl | (simp; done) | (simp [*]; done), by repeat (first | exact Drawn0.refl _ | apply Drawn0.step)⟩
    ·rw [if_neg c12] at H
     have c12b0 : decide (48 ≤ a0) = false := decide_eq_false c12
     clear c12
     obtain rfl := Option.some.inj H
     go_enter Tryd.func62, Tryd.ntmps62
     go_wp2
     go_ret
     exact ⟨by first | rfl | (simp; done) | (simp [*]; done), by repeat (first | exact Drawn0.refl _ | apply Drawn0.step)⟩
  ·rw [if_neg c10] at H
   have c10b0 : decide (65 ≤ a0) = false := decide_eq_false c10
   clear c10
   by_cases c14 : 48 ≤ a0
   ·rw [if_pos c14] at H
    have c14b0 : decide (48 ≤ a0) = true := decide_eq_true c14
    clear c14
    by_cases c15 : a0 ≤ 57
    ·rw [if_pos c15] at H
     have c15b0 : decide (a0 ≤ 57) = true := decide_eq_true c15
     clear c15
     obtain rfl := Option.some.inj H
     go_enter Tryd.func62, Tryd.ntmps62
     go_wp2
     go_ret
     exact ⟨by first | rfl | (simp; done) | (simp [*]; done), by repeat (first | exact Drawn0.refl _ | apply Drawn0.step)⟩
    ·rw [if_neg c15] at H
     have c15b0 : decide (a0 ≤ 57) = false := decide_eq_false c15
     clear c15
     obtain rfl := Option.some.inj H
     go_enter Tryd.func62, Tryd.ntmps62
     go_wp2
     go_ret
     exact ⟨by first | rfl | (simp; done) | (simp [*]; done), by repeat (first | exact Drawn0.refl _ | apply Drawn0.step)⟩
   ·rw [if_neg c14] at H
    have c14b0 : decide (48 ≤ a0) = false := decide_eq_false c14
    clear c14
    obtain rfl := Option.some.inj H
    go_enter Tryd.func62, Tryd.ntmps62
    go_wp2
    go_ret
    exact ⟨by first | rfl | (simp; done) | (simp [*]; done), by repeat (first | exact Drawn0.refl _ | apply Drawn0.step)⟩

end Go.Proofs.YtcncclglmgdinaaDoor.PFnPgStep
