-- PRINTED BY print.sh 35421559b90ae4d0a3588c463048766b98c2df88dd9212a6774a882060cdf62d: not written by this session
import Derived.Test.YtmgdlodnhmpbiaaDoorPFnSyPrefixx0
namespace Go.Proofs.YtmgdlodnhmpbiaaDoor.PFnSyPrefix
open Go.RowKit Go.Proofs.YtmgdlodnhmpbiaaDoorW.PrintWords Go.Proofs.YtmgdlodnhmpbiaaDoorW.PrintLast Go.Proofs.YtmgdlodnhmpbiaaDoorW.PrintMore
attribute [local go_sem] max2_int min2_int max_two min_two max_three min_three max_four min_four   -- for this text's walks alone
set_option linter.unusedVariables false
set_option linter.unusedSimpArgs false

/-! ### spec_reInClass: function 66 -/
def spec_reInClass.l0 : Nat → List Int → Int → Int → Option (Bool)
  | 0, _, _, _ => none
  | k + 1, x0, x1, x5 => if (wrap64 (x5 + 1)) < (x0.length : Int) then (if 0 ≤ x5 then (if x5 < (x0.length : Int) then (if (rd x0 x5) ≤ x1 then (if 0 ≤ (wrap64 (x5 + 1)) then (if x1 ≤ (rd x0 (wrap64 (x5 + 1))) then (some true) else (spec_reInClass.l0 k x0 x1 (wrap64 (x5 + 2)))) else (none)) else (spec_reInClass.l0 k x0 x1 (wrap64 (x5 + 2)))) else (none)) else (none)) else (some false)
def spec_reInClass.f (k : Nat) (l0 : List Int) (a1 : Int) : Option (Bool) := spec_reInClass.l0 k l0 a1 0
theorem spec_reInClass.mono_l : ∀ k, (∀ y0 y1 y2, LeO (spec_reInClass.l0 k y0 y1 y2) (spec_reInClass.l0 (k + 1) y0 y1 y2))
  | 0 => fun _ _ _ r h => by simp [spec_reInClass.l0] at h
  | k + 1 => by
    have ih0 := spec_reInClass.mono_l k
    · intro y0 y1 y2
      unfold spec_reInClass.l0
      repeat' first
      | (with_reducible exact ih0 _ _ _)
      | (with_reducible exact LeO.refl _)
      | (with_reducible exact LeO.none _)
      | (with_reducible refine LeO.ite ?_ ?_)
      | (with_reducible refine LeO.bind ?_ (fun _ => ?_))
      | exact ih0 _ _ _
      | exact LeO.none _
      | refine LeO.ite ?_ ?_
      | refine LeO.bind ?_ (fun _ => ?_)
theorem spec_reInClass.mono : ∀ a0 a1 k, LeO (spec_reInClass.f k a0 a1) (spec_reInClass.f (k + 1) a0 a1) := by
  intro a0 a1 k
  have ih0 := spec_reInClass.mono_l k
  unfold spec_reInClass.f
  repeat' first
      | (with_reducible exact ih0 _ _ _)
      | (with_reducible exact LeO.refl _)
      | (with_reducible exact LeO.none _)
      | (with_reducible refine LeO.ite ?_ ?_)
      | (with_reducible refine LeO.bind ?_ (fun _ => ?_))
      | exact ih0 _ _ _
      | exact LeO.none _
      | refine LeO.ite ?_ ?_
      | refine LeO.bind ?_ (fun _ => ?_)
set_option maxHeartbeats 8000000 in
set_option maxRecDepth 100000 in
theorem spec_reInClass.calls (k : Nat) (A0 : Option Addr) (c0 : Nat) (l0 : List Int) (a1 : Int) (r : Bool) (w : World) (hr0 : Kd.C (Kd.int .i32) w A0 l0.length l0) (hc0 : l0.length ≤ c0) (h : spec_reInClass.f k l0 a1 = some r) :
    Calls Tryd.prog 66 #[.slice A0 l0.length c0, .int .i32 a1] w fun e w' => e = .returned (.bool r) ∧ Drawn0 w w' := by
  have HR0 := Aside0.mk hr0
  have HC0 := Aside0.mk hc0
  clear hr0 hc0
  have H : (spec_reInClass.l0 k l0 a1 0) = some r := h
  clear h
  have H' := Aside0.mk H
  clear H
  go_enter Tryd.func66, Tryd.ntmps66
  go_wp2
  go_loopg [5] k (fun kq v5 w' => ∃ (x5_1 : Int), v5 = .int .i64 x5_1 ∧ Aside0 (spec_reInClass.l0 kq l0 a1 x5_1 = some r) ∧ Aside0 (kq ≤ k) ∧ Drawn0 w w')
  case atStart => exact ⟨(0), (by first | rfl | (simp; done) | (simp [*]; done)), H', ⟨Nat.le_refl _⟩, by repeat (first | exact Drawn0.refl _ | apply Drawn0.step)⟩
  case round =>
    clear H'
    try clear p2
    obtain ⟨x5_1, rfl, HA, HK1, ⟨m1, rfl⟩⟩ := hrel
    cases gk with
    | zero => exact absurd HA.out (by simp [spec_reInClass.l0])
    | succ k1 =>
      have H := HA.out
      clear HA
      simp only [spec_reInClass.l0] at H
      by_cases c3 : (wrap64 (x5_1 + 1)) < (l0.length : Int)
      · rw [if_pos c3] at H
        have c3b0 : decide ((wrap64 (x5_1 + 1)) < (l0.length : Int)) = true := decide_eq_true c3
        clear c3
        by_cases c4 : 0 ≤ x5_1
        · rw [if_pos c4] at H
          have c4b0 : decide (0 ≤ x5_1) = true := decide_eq_true c4
          clear c4
          by_cases c5 : x5_1 < (l0.length : Int)
          · rw [if_pos c5] at H
            have c5b0 : decide (x5_1 < (l0.length : Int)) = true := decide_eq_true c5
            clear c5
            by_cases c6 : (rd l0 x5_1) ≤ a1
            · rw [if_pos c6] at H
              have c6b0 : decide ((rd l0 x5_1) ≤ a1) = true := decide_eq_true c6
              clear c6
              obtain ⟨ji7, hji7⟩ : ∃ j_ : Int, (wrap64 (x5_1 + 1)) = j_ := ⟨_, rfl⟩
              replace H : (if 0 ≤ (ji7) then (if a1 ≤ (rd l0 (ji7)) then (some true) else (spec_reInClass.l0 k1 l0 a1 (wrap64 (x5_1 + 2)))) else (none)) = some r := by first | (rw [hji7] at H; exact H) | (simp only [hji7] at H ⊢; exact H)
              (try rw [hji7] at c3b0)
              have hji7w : (IntKind.i64.wrap (x5_1 + 1)) = ji7 := (i64_w _).trans hji7
              by_cases c8 : 0 ≤ (ji7)
              · rw [if_pos c8] at H
                have c8b0 : decide (0 ≤ (ji7)) = true := decide_eq_true c8
                clear c8
                by_cases c9 : a1 ≤ (rd l0 (ji7))
                · rw [if_pos c9] at H
                  have c9b0 : decide (a1 ≤ (rd l0 (ji7))) = true := decide_eq_true c9
                  clear c9
                  obtain rfl := Option.some.inj H
                  have p230 : 0 ≤ (x5_1 : Int) := of_decide_eq_true (by first | (with_reducible assumption) | assumption)
                  have q230 : x5_1 < (l0.length : Int) := of_decide_eq_true (by first | (with_reducible assumption) | assumption)
                  obtain ⟨ad230, e230, hx230_0⟩ := Kd.at_int HR0.out x5_1 p230 q230
                  cases e230
                  replace p230 := eq_true p230
                  replace q230 := eq_true q230
                  have p231 : 0 ≤ ((ji7) : Int) := of_decide_eq_true (by first | (with_reducible assumption) | assumption)
                  have q231 : (ji7) < (l0.length : Int) := of_decide_eq_true (by first | (with_reducible assumption) | assumption)
                  obtain ⟨ad231, e231, hx231_0⟩ := Kd.at_int HR0.out (ji7) p231 q231
                  obtain rfl : ad230 = ad231 := (by injection e231)
                  replace p231 := eq_true p231
                  replace q231 := eq_true q231
                  go_wp2
                  go_ret
                  exact ⟨by first | rfl | (simp; done) | (simp only [← hji7] <;> (first | rfl | simp)) | (simp [*]; done), by repeat (first | exact Drawn0.refl _ | apply Drawn0.step)⟩
                · rw [if_neg c9] at H
                  have c9b0 : decide (a1 ≤ (rd l0 (ji7))) = false := decide_eq_false c9
                  clear c9
                  have H' := Aside0.mk H
                  clear H
                  have p230 : 0 ≤ (x5_1 : Int) := of_decide_eq_true (by first | (with_reducible assumption) | assumption)
                  have q230 : x5_1 < (l0.length : Int) := of_decide_eq_true (by first | (with_reducible assumption) | assumption)
                  obtain ⟨ad230, e230, hx230_0⟩ := Kd.at_int HR0.out x5_1 p230 q230
                  cases e230
                  replace p230 := eq_true p230
                  replace q230 := eq_true q230
                  have p231 : 0 ≤ ((ji7) : Int) := of_decide_eq_true (by first | (with_reducible assumption) | assumption)
                  have q231 : (ji7) < (l0.length : Int) := of_decide_eq_true (by first | (with_reducible assumption) | assumption)
                  obtain ⟨ad231, e231, hx231_0⟩ := Kd.at_int HR0.out (ji7) p231 q231
                  obtain rfl : ad230 = ad231 := (by injection e231)
                  replace p231 := eq_true p231
                  replace q231 := eq_true q231
                  go_wp2
                  go_roundg k1
                  case measure => have := HK1.out; omega
                  case rel => exact ⟨(wrap64 (x5_1 + 2)), (by first | rfl | (simp; done) | (simp [*]; done)), H', ⟨by have := HK1.out; omega⟩, by repeat (first | exact Drawn0.refl _ | apply Drawn0.step)⟩
              · rw [if_neg c8] at H
                exact absurd H (by simp)
            · rw [if_neg c6] at H
              have c6b0 : decide ((rd l0 x5_1) ≤ a1) = false := decide_eq_false c6
              clear c6
              have H' := Aside0.mk H
              clear H
              have p230 : 0 ≤ (x5_1 : Int) := of_decide_eq_true (by first | (with_reducible assumption) | assumption)
              have q230 : x5_1 < (l0.length : Int) := of_decide_eq_true (by first | (with_reducible assumption) | assumption)
              obtain ⟨ad230, e230, hx230_0⟩ := Kd.at_int HR0.out x5_1 p230 q230
              cases e230
              replace p230 := eq_true p230
              replace q230 := eq_true q230
              go_wp2
              go_roundg k1
              case measure => have := HK1.out; omega
              case rel => exact ⟨(wrap64 (x5_1 + 2)), (by first | rfl | (simp; done) | (simp [*]; done)), H', ⟨by have := HK1.out; omega⟩, by repeat (first | exact Drawn0.refl _ | apply Drawn0.step)⟩
          · rw [if_neg c5] at H
            exact absurd H (by simp)
        · rw [if_neg c4] at H
          exact absurd H (by simp)
      · rw [if_neg c3] at H
        have c3b0 : decide ((wrap64 (x5_1 + 1)) < (l0.length : Int)) = false := decide_eq_false c3
        clear c3
        obtain rfl := Option.some.inj H
        go_wp2
        go_ret
        exact ⟨by first | rfl | (simp; done) | (simp [*]; done), by repeat (first | exact Drawn0.refl _ | apply Drawn0.step)⟩

-- NOT PRINTED: function 37 (spec_progTakes)

-- NOT PRINTED: function 15 (spec_ProgEnds)

-- NOT PRINTED: function 4 (laws_FnSyPrefix)

end Go.Proofs.YtmgdlodnhmpbiaaDoor.PFnSyPrefix
