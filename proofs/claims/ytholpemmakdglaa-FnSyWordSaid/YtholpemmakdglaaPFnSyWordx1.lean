-- PRINTED BY print.sh 35421559b90ae4d0a3588c463048766b98c2df88dd9212a6774a882060cdf62d: not written by this session
import Derived.Test.YtholpemmakdglaaPFnSyWordx0
namespace Go.Proofs.Ytholpemmakdglaa.PFnSyWord
open Go.RowKit Go.Proofs.YtholpemmakdglaaW.PrintWords Go.Proofs.YtholpemmakdglaaW.PrintLast Go.Proofs.YtholpemmakdglaaW.PrintMore
attribute [local go_sem] max2_int min2_int max_two min_two max_three min_three max_four min_four   -- for this text's walks alone
set_option linter.unusedVariables false
set_option linter.unusedSimpArgs false

/-! ### regexpsyntax_IsWordChar: function 22 -/
def regexpsyntax_IsWordChar.f (a0 : Int) : Option (Bool) := if 97 ≤ a0 then (if a0 ≤ 122 then (some true) else (if 65 ≤ a0 then (if a0 ≤ 90 then (some true) else (if 48 ≤ a0 then (if a0 ≤ 57 then (some true) else (some (a0 == 95))) else (some (a0 == 95)))) else (if 48 ≤ a0 then (if a0 ≤ 57 then (some true) else (some (a0 == 95))) else (some (a0 == 95))))) else (if 65 ≤ a0 then (if a0 ≤ 90 then (some true) else (if 48 ≤ a0 then (if a0 ≤ 57 then (some true) else (some (a0 == 95))) else (some (a0 == 95)))) else (if 48 ≤ a0 then (if a0 ≤ 57 then (some true) else (some (a0 == 95))) else (some (a0 == 95))))
set_option maxHeartbeats 8000000 in
set_option maxRecDepth 100000 in
theorem regexpsyntax_IsWordChar.calls (a0 : Int) (r : Bool) (w : World) (h : regexpsyntax_IsWordChar.f a0 = some r) :
    Calls Try.prog 22 #[.int .i32 a0] w fun e w' => e = .returned (.bool r) ∧ Drawn0 w w' := by
  have H : (if 97 ≤ a0 then (if a0 ≤ 122 then (some true) else (if 65 ≤ a0 then (if a0 ≤ 90 then (some true) else (if 48 ≤ a0 then (if a0 ≤ 57 then (some true) else (some (a0 == 95))) else (some (a0 == 95)))) else (if 48 ≤ a0 then (if a0 ≤ 57 then (some true) else (some (a0 == 95))) else (some (a0 == 95))))) else (if 65 ≤ a0 then (if a0 ≤ 90 then (some true) else (if 48 ≤ a0 then (if a0 ≤ 57 then (some true) else (some (a0 == 95))) else (some (a0 == 95)))) else (if 48 ≤ a0 then (if a0 ≤ 57 then (some true) else (some (a0 == 95))) else (some (a0 == 95))))) = some r := h
  clear h
  by_cases c2 : 97 ≤ a0
  · rw [if_pos c2] at H
    have c2b0 : decide (97 ≤ a0) = true := decide_eq_true c2
    clear c2
    by_cases c3 : a0 ≤ 122
    · rw [if_pos c3] at H
      have c3b0 : decide (a0 ≤ 122) = true := decide_eq_true c3
      clear c3
      obtain rfl := Option.some.inj H
      go_enter Try.func22, Try.ntmps22
      go_wp2
      go_ret
      exact ⟨by first | rfl | (simp; done) | (simp [*]; done), by repeat (first | exact Drawn0.refl _ | apply Drawn0.step)⟩
    · rw [if_neg c3] at H
      have c3b0 : decide (a0 ≤ 122) = false := decide_eq_false c3
      clear c3
      by_cases c4 : 65 ≤ a0
      · rw [if_pos c4] at H
        have c4b0 : decide (65 ≤ a0) = true := decide_eq_true c4
        clear c4
        by_cases c5 : a0 ≤ 90
        · rw [if_pos c5] at H
          have c5b0 : decide (a0 ≤ 90) = true := decide_eq_true c5
          clear c5
          obtain rfl := Option.some.inj H
          go_enter Try.func22, Try.ntmps22
          go_wp2
          go_ret
          exact ⟨by first | rfl | (simp; done) | (simp [*]; done), by repeat (first | exact Drawn0.refl _ | apply Drawn0.step)⟩
        · rw [if_neg c5] at H
          have c5b0 : decide (a0 ≤ 90) = false := decide_eq_false c5
          clear c5
          by_cases c6 : 48 ≤ a0
          · rw [if_pos c6] at H
            have c6b0 : decide (48 ≤ a0) = true := decide_eq_true c6
            clear c6
            by_cases c7 : a0 ≤ 57
            · rw [if_pos c7] at H
              have c7b0 : decide (a0 ≤ 57) = true := decide_eq_true c7
              clear c7
              obtain rfl := Option.some.inj H
              go_enter Try.func22, Try.ntmps22
              go_wp2
              go_ret
              exact ⟨by first | rfl | (simp; done) | (simp [*]; done), by repeat (first | exact Drawn0.refl _ | apply Drawn0.step)⟩
            · rw [if_neg c7] at H
              have c7b0 : decide (a0 ≤ 57) = false := decide_eq_false c7
              clear c7
              obtain rfl := Option.some.inj H
              go_enter Try.func22, Try.ntmps22
              go_wp2
              go_ret
              exact ⟨by first | rfl | (simp; done) | (simp [*]; done), by repeat (first | exact Drawn0.refl _ | apply Drawn0.step)⟩
          · rw [if_neg c6] at H
            have c6b0 : decide (48 ≤ a0) = false := decide_eq_false c6
            clear c6
            obtain rfl := Option.some.inj H
            go_enter Try.func22, Try.ntmps22
            go_wp2
            go_ret
            exact ⟨by first | rfl | (simp; done) | (simp [*]; done), by repeat (first | exact Drawn0.refl _ | apply Drawn0.step)⟩
      · rw [if_neg c4] at H
        have c4b0 : decide (65 ≤ a0) = false := decide_eq_false c4
        clear c4
        by_cases c8 : 48 ≤ a0
        · rw [if_pos c8] at H
          have c8b0 : decide (48 ≤ a0) = true := decide_eq_true c8
          clear c8
          by_cases c9 : a0 ≤ 57
          · rw [if_pos c9] at H
            have c9b0 : decide (a0 ≤ 57) = true := decide_eq_true c9
            clear c9
            obtain rfl := Option.some.inj H
            go_enter Try.func22, Try.ntmps22
            go_wp2
            go_ret
            exact ⟨by first | rfl | (simp; done) | (simp [*]; done), by repeat (first | exact Drawn0.refl _ | apply Drawn0.step)⟩
          · rw [if_neg c9] at H
            have c9b0 : decide (a0 ≤ 57) = false := decide_eq_false c9
            clear c9
            obtain rfl := Option.some.inj H
            go_enter Try.func22, Try.ntmps22
            go_wp2
            go_ret
            exact ⟨by first | rfl | (simp; done) | (simp [*]; done), by repeat (first | exact Drawn0.refl _ | apply Drawn0.step)⟩
        · rw [if_neg c8] at H
          have c8b0 : decide (48 ≤ a0) = false := decide_eq_false c8
          clear c8
          obtain rfl := Option.some.inj H
          go_enter Try.func22, Try.ntmps22
          go_wp2
          go_ret
          exact ⟨by first | rfl | (simp; done) | (simp [*]; done), by repeat (first | exact Drawn0.refl _ | apply Drawn0.step)⟩
  · rw [if_neg c2] at H
    have c2b0 : decide (97 ≤ a0) = false := decide_eq_false c2
    clear c2
    by_cases c10 : 65 ≤ a0
    · rw [if_pos c10] at H
      have c10b0 : decide (65 ≤ a0) = true := decide_eq_true c10
      clear c10
      by_cases c11 : a0 ≤ 90
      · rw [if_pos c11] at H
        have c11b0 : decide (a0 ≤ 90) = true := decide_eq_true c11
        clear c11
        obtain rfl := Option.some.inj H
        go_enter Try.func22, Try.ntmps22
        go_wp2
        go_ret
        exact ⟨by first | rfl | (simp; done) | (simp [*]; done), by repeat (first | exact Drawn0.refl _ | apply Drawn0.step)⟩
      · rw [if_neg c11] at H
        have c11b0 : decide (a0 ≤ 90) = false := decide_eq_false c11
        clear c11
        by_cases c12 : 48 ≤ a0
        · rw [if_pos c12] at H
          have c12b0 : decide (48 ≤ a0) = true := decide_eq_true c12
          clear c12
          by_cases c13 : a0 ≤ 57
          · rw [if_pos c13] at H
            have c13b0 : decide (a0 ≤ 57) = true := decide_eq_true c13
            clear c13
            obtain rfl := Option.some.inj H
            go_enter Try.func22, Try.ntmps22
            go_wp2
            go_ret
            exact ⟨by first | rfl | (simp; done) | (simp [*]; done), by repeat (first | exact Drawn0.refl _ | apply Drawn0.step)⟩
          · rw [if_neg c13] at H
            have c13b0 : decide (a0 ≤ 57) = false := decide_eq_false c13
            clear c13
            obtain rfl := Option.some.inj H
            go_enter Try.func22, Try.ntmps22
            go_wp2
            go_ret
            exact ⟨by first | rfl | (simp; done) | (simp [*]; done), by repeat (first | exact Drawn0.refl _ | apply Drawn0.step)⟩
        · rw [if_neg c12] at H
          have c12b0 : decide (48 ≤ a0) = false := decide_eq_false c12
          clear c12
          obtain rfl := Option.some.inj H
          go_enter Try.func22, Try.ntmps22
          go_wp2
          go_ret
          exact ⟨by first | rfl | (simp; done) | (simp [*]; done), by repeat (first | exact Drawn0.refl _ | apply Drawn0.step)⟩
    · rw [if_neg c10] at H
      have c10b0 : decide (65 ≤ a0) = false := decide_eq_false c10
      clear c10
      by_cases c14 : 48 ≤ a0
      · rw [if_pos c14] at H
        have c14b0 : decide (48 ≤ a0) = true := decide_eq_true c14
        clear c14
        by_cases c15 : a0 ≤ 57
        · rw [if_pos c15] at H
          have c15b0 : decide (a0 ≤ 57) = true := decide_eq_true c15
          clear c15
          obtain rfl := Option.some.inj H
          go_enter Try.func22, Try.ntmps22
          go_wp2
          go_ret
          exact ⟨by first | rfl | (simp; done) | (simp [*]; done), by repeat (first | exact Drawn0.refl _ | apply Drawn0.step)⟩
        · rw [if_neg c15] at H
          have c15b0 : decide (a0 ≤ 57) = false := decide_eq_false c15
          clear c15
          obtain rfl := Option.some.inj H
          go_enter Try.func22, Try.ntmps22
          go_wp2
          go_ret
          exact ⟨by first | rfl | (simp; done) | (simp [*]; done), by repeat (first | exact Drawn0.refl _ | apply Drawn0.step)⟩
      · rw [if_neg c14] at H
        have c14b0 : decide (48 ≤ a0) = false := decide_eq_false c14
        clear c14
        obtain rfl := Option.some.inj H
        go_enter Try.func22, Try.ntmps22
        go_wp2
        go_ret
        exact ⟨by first | rfl | (simp; done) | (simp [*]; done), by repeat (first | exact Drawn0.refl _ | apply Drawn0.step)⟩

/-! ### impl_SyWord: function 9 -/
def impl_SyWord.f (a0 : Int) : Option (Bool) := (regexpsyntax_IsWordChar.f a0).bind fun t101 => (some t101)
set_option maxHeartbeats 8000000 in
set_option maxRecDepth 100000 in
theorem impl_SyWord.calls (a0 : Int) (r : Bool) (w : World) (h : impl_SyWord.f a0 = some r) :
    Calls Try.prog 9 #[.int .i32 a0] w fun e w' => e = .returned (.bool r) ∧ Drawn0 w w' := by
  have H : ((regexpsyntax_IsWordChar.f a0).bind fun t101 => (some t101)) = some r := h
  clear h
  replace H := Option.bind_eq_some_iff.mp H
  obtain ⟨t101, A20, H⟩ := H
  replace H : (some t101) = some r := H
  have A2 := Aside0.mk A20
  clear A20
  obtain rfl := Option.some.inj H
  go_enter Try.func9, Try.ntmps9
  go_wp2_with (first | ((with_reducible refine gate_callee (f := 22) rfl ?_); refine goesL_ (some 4) rfl rfl Try.func22 (by kernel_rfl) rfl #[.int .i32 a0] rfl (by (try simp only [List.map_toArray, List.map_cons, List.map_nil]); first | done | rfl | (simp only [List.length_drop, List.length_take]; rfl)) ?_; (with_reducible refine (regexpsyntax_IsWordChar.calls a0 t101 _ A2.out).mono ?_); rintro e w' ⟨rfl, ⟨nd, rfl⟩⟩; refine ⟨_, rfl, ?_⟩))
  go_ret
  exact ⟨by first | rfl | (simp; done) | (simp [*]; done), by repeat (first | exact Drawn0.refl _ | apply Drawn0.step)⟩

/-! ### laws_FnSyWord: function 3 -/
def laws_FnSyWord.f (a0 : Int) : Option (Bool) := if a0 ≥ 97 then (if a0 ≤ 122 then ((impl_SyWord.f a0).bind fun t102 => (if (t102 == true) = true then ((impl_SyWord.f 122).bind fun t103 => (some t103)) else (some false))) else (if a0 ≥ 65 then (if a0 ≤ 90 then ((impl_SyWord.f a0).bind fun t104 => (if (t104 == true) = true then ((impl_SyWord.f 122).bind fun t105 => (some t105)) else (some false))) else (if a0 ≥ 48 then (if a0 ≤ 57 then ((impl_SyWord.f a0).bind fun t106 => (if (t106 == true) = true then ((impl_SyWord.f 122).bind fun t107 => (some t107)) else (some false))) else ((impl_SyWord.f a0).bind fun t108 => (if (t108 == (a0 == 95)) = true then ((impl_SyWord.f 122).bind fun t109 => (some t109)) else (some false)))) else ((impl_SyWord.f a0).bind fun t110 => (if (t110 == (a0 == 95)) = true then ((impl_SyWord.f 122).bind fun t111 => (some t111)) else (some false))))) else (if a0 ≥ 48 then (if a0 ≤ 57 then ((impl_SyWord.f a0).bind fun t112 => (if (t112 == true) = true then ((impl_SyWord.f 122).bind fun t113 => (some t113)) else (some false))) else ((impl_SyWord.f a0).bind fun t114 => (if (t114 == (a0 == 95)) = true then ((impl_SyWord.f 122).bind fun t115 => (some t115)) else (some false)))) else ((impl_SyWord.f a0).bind fun t116 => (if (t116 == (a0 == 95)) = true then ((impl_SyWord.f 122).bind fun t117 => (some t117)) else (some false)))))) else (if a0 ≥ 65 then (if a0 ≤ 90 then ((impl_SyWord.f a0).bind fun t118 => (if (t118 == true) = true then ((impl_SyWord.f 122).bind fun t119 => (some t119)) else (some false))) else (if a0 ≥ 48 then (if a0 ≤ 57 then ((impl_SyWord.f a0).bind fun t120 => (if (t120 == true) = true then ((impl_SyWord.f 122).bind fun t121 => (some t121)) else (some false))) else ((impl_SyWord.f a0).bind fun t122 => (if (t122 == (a0 == 95)) = true then ((impl_SyWord.f 122).bind fun t123 => (some t123)) else (some false)))) else ((impl_SyWord.f a0).bind fun t124 => (if (t124 == (a0 == 95)) = true then ((impl_SyWord.f 122).bind fun t125 => (some t125)) else (some false))))) else (if a0 ≥ 48 then (if a0 ≤ 57 then ((impl_SyWord.f a0).bind fun t126 => (if (t126 == true) = true then ((impl_SyWord.f 122).bind fun t127 => (some t127)) else (some false))) else ((impl_SyWord.f a0).bind fun t128 => (if (t128 == (a0 == 95)) = true then ((impl_SyWord.f 122).bind fun t129 => (some t129)) else (some false)))) else ((impl_SyWord.f a0).bind fun t130 => (if (t130 == (a0 == 95)) = true then ((impl_SyWord.f 122).bind fun t131 => (some t131)) else (some false)))))
set_option maxHeartbeats 8000000 in
set_option maxRecDepth 100000 in
theorem laws_FnSyWord.calls (a0 : Int) (r : Bool) (w : World) (h : laws_FnSyWord.f a0 = some r) :
    Calls Try.prog 3 #[.int .i32 a0] w fun e w' => e = .returned (.bool r) ∧ Drawn0 w w' := by
  have H : (if a0 ≥ 97 then (if a0 ≤ 122 then ((impl_SyWord.f a0).bind fun t102 => (if (t102 == true) = true then ((impl_SyWord.f 122).bind fun t103 => (some t103)) else (some false))) else (if a0 ≥ 65 then (if a0 ≤ 90 then ((impl_SyWord.f a0).bind fun t104 => (if (t104 == true) = true then ((impl_SyWord.f 122).bind fun t105 => (some t105)) else (some false))) else (if a0 ≥ 48 then (if a0 ≤ 57 then ((impl_SyWord.f a0).bind fun t106 => (if (t106 == true) = true then ((impl_SyWord.f 122).bind fun t107 => (some t107)) else (some false))) else ((impl_SyWord.f a0).bind fun t108 => (if (t108 == (a0 == 95)) = true then ((impl_SyWord.f 122).bind fun t109 => (some t109)) else (some false)))) else ((impl_SyWord.f a0).bind fun t110 => (if (t110 == (a0 == 95)) = true then ((impl_SyWord.f 122).bind fun t111 => (some t111)) else (some false))))) else (if a0 ≥ 48 then (if a0 ≤ 57 then ((impl_SyWord.f a0).bind fun t112 => (if (t112 == true) = true then ((impl_SyWord.f 122).bind fun t113 => (some t113)) else (some false))) else ((impl_SyWord.f a0).bind fun t114 => (if (t114 == (a0 == 95)) = true then ((impl_SyWord.f 122).bind fun t115 => (some t115)) else (some false)))) else ((impl_SyWord.f a0).bind fun t116 => (if (t116 == (a0 == 95)) = true then ((impl_SyWord.f 122).bind fun t117 => (some t117)) else (some false)))))) else (if a0 ≥ 65 then (if a0 ≤ 90 then ((impl_SyWord.f a0).bind fun t118 => (if (t118 == true) = true then ((impl_SyWord.f 122).bind fun t119 => (some t119)) else (some false))) else (if a0 ≥ 48 then (if a0 ≤ 57 then ((impl_SyWord.f a0).bind fun t120 => (if (t120 == true) = true then ((impl_SyWord.f 122).bind fun t121 => (some t121)) else (some false))) else ((impl_SyWord.f a0).bind fun t122 => (if (t122 == (a0 == 95)) = true then ((impl_SyWord.f 122).bind fun t123 => (some t123)) else (some false)))) else ((impl_SyWord.f a0).bind fun t124 => (if (t124 == (a0 == 95)) = true then ((impl_SyWord.f 122).bind fun t125 => (some t125)) else (some false))))) else (if a0 ≥ 48 then (if a0 ≤ 57 then ((impl_SyWord.f a0).bind fun t126 => (if (t126 == true) = true then ((impl_SyWord.f 122).bind fun t127 => (some t127)) else (some false))) else ((impl_SyWord.f a0).bind fun t128 => (if (t128 == (a0 == 95)) = true then ((impl_SyWord.f 122).bind fun t129 => (some t129)) else (some false)))) else ((impl_SyWord.f a0).bind fun t130 => (if (t130 == (a0 == 95)) = true then ((impl_SyWord.f 122).bind fun t131 => (some t131)) else (some false)))))) = some r := h
  clear h
  by_cases c2 : a0 ≥ 97
  · rw [if_pos c2] at H
    have c2b0 : decide (97 ≤ a0) = true := decide_eq_true c2
    clear c2
    by_cases c3 : a0 ≤ 122
    · rw [if_pos c3] at H
      have c3b0 : decide (a0 ≤ 122) = true := decide_eq_true c3
      clear c3
      replace H := Option.bind_eq_some_iff.mp H
      obtain ⟨t102, A40, H⟩ := H
      replace H : (if (t102 == true) = true then ((impl_SyWord.f 122).bind fun t103 => (some t103)) else (some false)) = some r := H
      have A4 := Aside0.mk A40
      clear A40
      by_cases c5 : (t102 == true) = true
      · rw [if_pos c5] at H
        have c5b0 : (t102 == true) = true := c5
        (try (have c5b1 : decide (t102 = true) = true := by simpa using c5))
        (try (have c5b2 : (t102 == true) = true := by simpa using c5))
        clear c5
        replace H := Option.bind_eq_some_iff.mp H
        obtain ⟨t103, A60, H⟩ := H
        replace H : (some t103) = some r := H
        have A6 := Aside0.mk A60
        clear A60
        obtain rfl := Option.some.inj H
        go_enter Try.func3, Try.ntmps3
        go_wp2_with (first | ((with_reducible refine gate_callee (f := 9) rfl ?_); refine goesL_ (some 31) rfl rfl Try.func9 (by kernel_rfl) rfl #[.int .i32 a0] rfl (by (try simp only [List.map_toArray, List.map_cons, List.map_nil]); first | done | rfl | (simp only [List.length_drop, List.length_take]; rfl)) ?_; (with_reducible refine (impl_SyWord.calls a0 t102 _ A4.out).mono ?_); rintro e w' ⟨rfl, ⟨nd, rfl⟩⟩; refine ⟨_, rfl, ?_⟩) | (go_at_call 9; (with_reducible refine (impl_SyWord.calls 122 t103 _ A6.out).mono ?_); rintro e w' ⟨rfl, ⟨nd, rfl⟩⟩))
        go_ret
        exact ⟨by first | rfl | (simp; done) | (simp [*]; done), by repeat (first | exact Drawn0.refl _ | apply Drawn0.step)⟩
      · rw [if_neg c5] at H
        have c5b0 : (t102 == true) = false := by simpa using c5
        (try (have c5b1 : decide (t102 = true) = false := by simpa using c5))
        (try (have c5b2 : (t102 == true) = false := by simpa using c5))
        (try (have c5b3 : ¬ (t102 = true) := by simpa using c5))
        clear c5
        obtain rfl := Option.some.inj H
        go_enter Try.func3, Try.ntmps3
        go_wp2_with (first | ((with_reducible refine gate_callee (f := 9) rfl ?_); refine goesL_ (some 31) rfl rfl Try.func9 (by kernel_rfl) rfl #[.int .i32 a0] rfl (by (try simp only [List.map_toArray, List.map_cons, List.map_nil]); first | done | rfl | (simp only [List.length_drop, List.length_take]; rfl)) ?_; (with_reducible refine (impl_SyWord.calls a0 t102 _ A4.out).mono ?_); rintro e w' ⟨rfl, ⟨nd, rfl⟩⟩; refine ⟨_, rfl, ?_⟩))
        go_ret
        exact ⟨by first | rfl | (simp; done) | (simp [*]; done), by repeat (first | exact Drawn0.refl _ | apply Drawn0.step)⟩
    · rw [if_neg c3] at H
      have c3b0 : decide (a0 ≤ 122) = false := decide_eq_false c3
      clear c3
      by_cases c7 : a0 ≥ 65
      · rw [if_pos c7] at H
        have c7b0 : decide (65 ≤ a0) = true := decide_eq_true c7
        clear c7
        by_cases c8 : a0 ≤ 90
        · rw [if_pos c8] at H
          have c8b0 : decide (a0 ≤ 90) = true := decide_eq_true c8
          clear c8
          replace H := Option.bind_eq_some_iff.mp H
          obtain ⟨t104, A90, H⟩ := H
          replace H : (if (t104 == true) = true then ((impl_SyWord.f 122).bind fun t105 => (some t105)) else (some false)) = some r := H
          have A9 := Aside0.mk A90
          clear A90
          by_cases c10 : (t104 == true) = true
          · rw [if_pos c10] at H
            have c10b0 : (t104 == true) = true := c10
            (try (have c10b1 : decide (t104 = true) = true := by simpa using c10))
            (try (have c10b2 : (t104 == true) = true := by simpa using c10))
            clear c10
            replace H := Option.bind_eq_some_iff.mp H
            obtain ⟨t105, A110, H⟩ := H
            replace H : (some t105) = some r := H
            have A11 := Aside0.mk A110
            clear A110
            obtain rfl := Option.some.inj H
            go_enter Try.func3, Try.ntmps3
            go_wp2_with (first | ((with_reducible refine gate_callee (f := 9) rfl ?_); refine goesL_ (some 31) rfl rfl Try.func9 (by kernel_rfl) rfl #[.int .i32 a0] rfl (by (try simp only [List.map_toArray, List.map_cons, List.map_nil]); first | done | rfl | (simp only [List.length_drop, List.length_take]; rfl)) ?_; (with_reducible refine (impl_SyWord.calls a0 t104 _ A9.out).mono ?_); rintro e w' ⟨rfl, ⟨nd, rfl⟩⟩; refine ⟨_, rfl, ?_⟩) | (go_at_call 9; (with_reducible refine (impl_SyWord.calls 122 t105 _ A11.out).mono ?_); rintro e w' ⟨rfl, ⟨nd, rfl⟩⟩))
            go_ret
            exact ⟨by first | rfl | (simp; done) | (simp [*]; done), by repeat (first | exact Drawn0.refl _ | apply Drawn0.step)⟩
          · rw [if_neg c10] at H
            have c10b0 : (t104 == true) = false := by simpa using c10
            (try (have c10b1 : decide (t104 = true) = false := by simpa using c10))
            (try (have c10b2 : (t104 == true) = false := by simpa using c10))
            (try (have c10b3 : ¬ (t104 = true) := by simpa using c10))
            clear c10
            obtain rfl := Option.some.inj H
            go_enter Try.func3, Try.ntmps3
            go_wp2_with (first | ((with_reducible refine gate_callee (f := 9) rfl ?_); refine goesL_ (some 31) rfl rfl Try.func9 (by kernel_rfl) rfl #[.int .i32 a0] rfl (by (try simp only [List.map_toArray, List.map_cons, List.map_nil]); first | done | rfl | (simp only [List.length_drop, List.length_take]; rfl)) ?_; (with_reducible refine (impl_SyWord.calls a0 t104 _ A9.out).mono ?_); rintro e w' ⟨rfl, ⟨nd, rfl⟩⟩; refine ⟨_, rfl, ?_⟩))
            go_ret
            exact ⟨by first | rfl | (simp; done) | (simp [*]; done), by repeat (first | exact Drawn0.refl _ | apply Drawn0.step)⟩
        · rw [if_neg c8] at H
          have c8b0 : decide (a0 ≤ 90) = false := decide_eq_false c8
          clear c8
          by_cases c12 : a0 ≥ 48
          · rw [if_pos c12] at H
            have c12b0 : decide (48 ≤ a0) = true := decide_eq_true c12
            clear c12
            by_cases c13 : a0 ≤ 57
            · rw [if_pos c13] at H
              have c13b0 : decide (a0 ≤ 57) = true := decide_eq_true c13
              clear c13
              replace H := Option.bind_eq_some_iff.mp H
              obtain ⟨t106, A140, H⟩ := H
              replace H : (if (t106 == true) = true then ((impl_SyWord.f 122).bind fun t107 => (some t107)) else (some false)) = some r := H
              have A14 := Aside0.mk A140
              clear A140
              by_cases c15 : (t106 == true) = true
              · rw [if_pos c15] at H
                have c15b0 : (t106 == true) = true := c15
                (try (have c15b1 : decide (t106 = true) = true := by simpa using c15))
                (try (have c15b2 : (t106 == true) = true := by simpa using c15))
                clear c15
                replace H := Option.bind_eq_some_iff.mp H
                obtain ⟨t107, A160, H⟩ := H
                replace H : (some t107) = some r := H
                have A16 := Aside0.mk A160
                clear A160
                obtain rfl := Option.some.inj H
                go_enter Try.func3, Try.ntmps3
                go_wp2_with (first | ((with_reducible refine gate_callee (f := 9) rfl ?_); refine goesL_ (some 31) rfl rfl Try.func9 (by kernel_rfl) rfl #[.int .i32 a0] rfl (by (try simp only [List.map_toArray, List.map_cons, List.map_nil]); first | done | rfl | (simp only [List.length_drop, List.length_take]; rfl)) ?_; (with_reducible refine (impl_SyWord.calls a0 t106 _ A14.out).mono ?_); rintro e w' ⟨rfl, ⟨nd, rfl⟩⟩; refine ⟨_, rfl, ?_⟩) | (go_at_call 9; (with_reducible refine (impl_SyWord.calls 122 t107 _ A16.out).mono ?_); rintro e w' ⟨rfl, ⟨nd, rfl⟩⟩))
                go_ret
                exact ⟨by first | rfl | (simp; done) | (simp [*]; done), by repeat (first | exact Drawn0.refl _ | apply Drawn0.step)⟩
              · rw [if_neg c15] at H
                have c15b0 : (t106 == true) = false := by simpa using c15
                (try (have c15b1 : decide (t106 = true) = false := by simpa using c15))
                (try (have c15b2 : (t106 == true) = false := by simpa using c15))
                (try (have c15b3 : ¬ (t106 = true) := by simpa using c15))
                clear c15
                obtain rfl := Option.some.inj H
                go_enter Try.func3, Try.ntmps3
                go_wp2_with (first | ((with_reducible refine gate_callee (f := 9) rfl ?_); refine goesL_ (some 31) rfl rfl Try.func9 (by kernel_rfl) rfl #[.int .i32 a0] rfl (by (try simp only [List.map_toArray, List.map_cons, List.map_nil]); first | done | rfl | (simp only [List.length_drop, List.length_take]; rfl)) ?_; (with_reducible refine (impl_SyWord.calls a0 t106 _ A14.out).mono ?_); rintro e w' ⟨rfl, ⟨nd, rfl⟩⟩; refine ⟨_, rfl, ?_⟩))
                go_ret
                exact ⟨by first | rfl | (simp; done) | (simp [*]; done), by repeat (first | exact Drawn0.refl _ | apply Drawn0.step)⟩
            · rw [if_neg c13] at H
              have c13b0 : decide (a0 ≤ 57) = false := decide_eq_false c13
              clear c13
              replace H := Option.bind_eq_some_iff.mp H
              obtain ⟨t108, A170, H⟩ := H
              replace H : (if (t108 == (a0 == 95)) = true then ((impl_SyWord.f 122).bind fun t109 => (some t109)) else (some false)) = some r := H
              have A17 := Aside0.mk A170
              clear A170
              by_cases c18 : (t108 == (a0 == 95)) = true
              · rw [if_pos c18] at H
                have c18b0 : (t108 == (a0 == 95)) = true := c18
                (try (have c18b1 : decide (t108 = (a0 == 95)) = true := by simpa using c18))
                (try (have c18b2 : (t108 == (a0 == 95)) = true := by simpa using c18))
                clear c18
                replace H := Option.bind_eq_some_iff.mp H
                obtain ⟨t109, A190, H⟩ := H
                replace H : (some t109) = some r := H
                have A19 := Aside0.mk A190
                clear A190
                obtain rfl := Option.some.inj H
                go_enter Try.func3, Try.ntmps3
                go_wp2_with (first | ((with_reducible refine gate_callee (f := 9) rfl ?_); refine goesL_ (some 31) rfl rfl Try.func9 (by kernel_rfl) rfl #[.int .i32 a0] rfl (by (try simp only [List.map_toArray, List.map_cons, List.map_nil]); first | done | rfl | (simp only [List.length_drop, List.length_take]; rfl)) ?_; (with_reducible refine (impl_SyWord.calls a0 t108 _ A17.out).mono ?_); rintro e w' ⟨rfl, ⟨nd, rfl⟩⟩; refine ⟨_, rfl, ?_⟩) | (go_at_call 9; (with_reducible refine (impl_SyWord.calls 122 t109 _ A19.out).mono ?_); rintro e w' ⟨rfl, ⟨nd, rfl⟩⟩))
                go_ret
                exact ⟨by first | rfl | (simp; done) | (simp [*]; done), by repeat (first | exact Drawn0.refl _ | apply Drawn0.step)⟩
              · rw [if_neg c18] at H
                have c18b0 : (t108 == (a0 == 95)) = false := by simpa using c18
                (try (have c18b1 : decide (t108 = (a0 == 95)) = false := by simpa using c18))
                (try (have c18b2 : (t108 == (a0 == 95)) = false := by simpa using c18))
                (try (have c18b3 : ¬ (t108 = (a0 == 95)) := by simpa using c18))
                clear c18
                obtain rfl := Option.some.inj H
                go_enter Try.func3, Try.ntmps3
                go_wp2_with (first | ((with_reducible refine gate_callee (f := 9) rfl ?_); refine goesL_ (some 31) rfl rfl Try.func9 (by kernel_rfl) rfl #[.int .i32 a0] rfl (by (try simp only [List.map_toArray, List.map_cons, List.map_nil]); first | done | rfl | (simp only [List.length_drop, List.length_take]; rfl)) ?_; (with_reducible refine (impl_SyWord.calls a0 t108 _ A17.out).mono ?_); rintro e w' ⟨rfl, ⟨nd, rfl⟩⟩; refine ⟨_, rfl, ?_⟩))
                go_ret
                exact ⟨by first | rfl | (simp; done) | (simp [*]; done), by repeat (first | exact Drawn0.refl _ | apply Drawn0.step)⟩
          · rw [if_neg c12] at H
            have c12b0 : decide (48 ≤ a0) = false := decide_eq_false c12
            clear c12
            replace H := Option.bind_eq_some_iff.mp H
            obtain ⟨t110, A200, H⟩ := H
            replace H : (if (t110 == (a0 == 95)) = true then ((impl_SyWord.f 122).bind fun t111 => (some t111)) else (some false)) = some r := H
            have A20 := Aside0.mk A200
            clear A200
            by_cases c21 : (t110 == (a0 == 95)) = true
            · rw [if_pos c21] at H
              have c21b0 : (t110 == (a0 == 95)) = true := c21
              (try (have c21b1 : decide (t110 = (a0 == 95)) = true := by simpa using c21))
              (try (have c21b2 : (t110 == (a0 == 95)) = true := by simpa using c21))
              clear c21
              replace H := Option.bind_eq_some_iff.mp H
              obtain ⟨t111, A220, H⟩ := H
              replace H : (some t111) = some r := H
              have A22 := Aside0.mk A220
              clear A220
              obtain rfl := Option.some.inj H
              go_enter Try.func3, Try.ntmps3
              go_wp2_with (first | ((with_reducible refine gate_callee (f := 9) rfl ?_); refine goesL_ (some 31) rfl rfl Try.func9 (by kernel_rfl) rfl #[.int .i32 a0] rfl (by (try simp only [List.map_toArray, List.map_cons, List.map_nil]); first | done | rfl | (simp only [List.length_drop, List.length_take]; rfl)) ?_; (with_reducible refine (impl_SyWord.calls a0 t110 _ A20.out).mono ?_); rintro e w' ⟨rfl, ⟨nd, rfl⟩⟩; refine ⟨_, rfl, ?_⟩) | (go_at_call 9; (with_reducible refine (impl_SyWord.calls 122 t111 _ A22.out).mono ?_); rintro e w' ⟨rfl, ⟨nd, rfl⟩⟩))
              go_ret
              exact ⟨by first | rfl | (simp; done) | (simp [*]; done), by repeat (first | exact Drawn0.refl _ | apply Drawn0.step)⟩
            · rw [if_neg c21] at H
              have c21b0 : (t110 == (a0 == 95)) = false := by simpa using c21
              (try (have c21b1 : decide (t110 = (a0 == 95)) = false := by simpa using c21))
              (try (have c21b2 : (t110 == (a0 == 95)) = false := by simpa using c21))
              (try (have c21b3 : ¬ (t110 = (a0 == 95)) := by simpa using c21))
              clear c21
              obtain rfl := Option.some.inj H
              go_enter Try.func3, Try.ntmps3
              go_wp2_with (first | ((with_reducible refine gate_callee (f := 9) rfl ?_); refine goesL_ (some 31) rfl rfl Try.func9 (by kernel_rfl) rfl #[.int .i32 a0] rfl (by (try simp only [List.map_toArray, List.map_cons, List.map_nil]); first | done | rfl | (simp only [List.length_drop, List.length_take]; rfl)) ?_; (with_reducible refine (impl_SyWord.calls a0 t110 _ A20.out).mono ?_); rintro e w' ⟨rfl, ⟨nd, rfl⟩⟩; refine ⟨_, rfl, ?_⟩))
              go_ret
              exact ⟨by first | rfl | (simp; done) | (simp [*]; done), by repeat (first | exact Drawn0.refl _ | apply Drawn0.step)⟩
      · rw [if_neg c7] at H
        have c7b0 : decide (65 ≤ a0) = false := decide_eq_false c7
        clear c7
        by_cases c23 : a0 ≥ 48
        · rw [if_pos c23] at H
          have c23b0 : decide (48 ≤ a0) = true := decide_eq_true c23
          clear c23
          by_cases c24 : a0 ≤ 57
          · rw [if_pos c24] at H
            have c24b0 : decide (a0 ≤ 57) = true := decide_eq_true c24
            clear c24
            replace H := Option.bind_eq_some_iff.mp H
            obtain ⟨t112, A250, H⟩ := H
            replace H : (if (t112 == true) = true then ((impl_SyWord.f 122).bind fun t113 => (some t113)) else (some false)) = some r := H
            have A25 := Aside0.mk A250
            clear A250
            by_cases c26 : (t112 == true) = true
            · rw [if_pos c26] at H
              have c26b0 : (t112 == true) = true := c26
              (try (have c26b1 : decide (t112 = true) = true := by simpa using c26))
              (try (have c26b2 : (t112 == true) = true := by simpa using c26))
              clear c26
              replace H := Option.bind_eq_some_iff.mp H
              obtain ⟨t113, A270, H⟩ := H
              replace H : (some t113) = some r := H
              have A27 := Aside0.mk A270
              clear A270
              obtain rfl := Option.some.inj H
              go_enter Try.func3, Try.ntmps3
              go_wp2_with (first | ((with_reducible refine gate_callee (f := 9) rfl ?_); refine goesL_ (some 31) rfl rfl Try.func9 (by kernel_rfl) rfl #[.int .i32 a0] rfl (by (try simp only [List.map_toArray, List.map_cons, List.map_nil]); first | done | rfl | (simp only [List.length_drop, List.length_take]; rfl)) ?_; (with_reducible refine (impl_SyWord.calls a0 t112 _ A25.out).mono ?_); rintro e w' ⟨rfl, ⟨nd, rfl⟩⟩; refine ⟨_, rfl, ?_⟩) | (go_at_call 9; (with_reducible refine (impl_SyWord.calls 122 t113 _ A27.out).mono ?_); rintro e w' ⟨rfl, ⟨nd, rfl⟩⟩))
              go_ret
              exact ⟨by first | rfl | (simp; done) | (simp [*]; done), by repeat (first | exact Drawn0.refl _ | apply Drawn0.step)⟩
            · rw [if_neg c26] at H
              have c26b0 : (t112 == true) = false := by simpa using c26
              (try (have c26b1 : decide (t112 = true) = false := by simpa using c26))
              (try (have c26b2 : (t112 == true) = false := by simpa using c26))
              (try (have c26b3 : ¬ (t112 = true) := by simpa using c26))
              clear c26
              obtain rfl := Option.some.inj H
              go_enter Try.func3, Try.ntmps3
              go_wp2_with (first | ((with_reducible refine gate_callee (f := 9) rfl ?_); refine goesL_ (some 31) rfl rfl Try.func9 (by kernel_rfl) rfl #[.int .i32 a0] rfl (by (try simp only [List.map_toArray, List.map_cons, List.map_nil]); first | done | rfl | (simp only [List.length_drop, List.length_take]; rfl)) ?_; (with_reducible refine (impl_SyWord.calls a0 t112 _ A25.out).mono ?_); rintro e w' ⟨rfl, ⟨nd, rfl⟩⟩; refine ⟨_, rfl, ?_⟩))
              go_ret
              exact ⟨by first | rfl | (simp; done) | (simp [*]; done), by repeat (first | exact Drawn0.refl _ | apply Drawn0.step)⟩
          · rw [if_neg c24] at H
            have c24b0 : decide (a0 ≤ 57) = false := decide_eq_false c24
            clear c24
            replace H := Option.bind_eq_some_iff.mp H
            obtain ⟨t114, A280, H⟩ := H
            replace H : (if (t114 == (a0 == 95)) = true then ((impl_SyWord.f 122).bind fun t115 => (some t115)) else (some false)) = some r := H
            have A28 := Aside0.mk A280
            clear A280
            by_cases c29 : (t114 == (a0 == 95)) = true
            · rw [if_pos c29] at H
              have c29b0 : (t114 == (a0 == 95)) = true := c29
              (try (have c29b1 : decide (t114 = (a0 == 95)) = true := by simpa using c29))
              (try (have c29b2 : (t114 == (a0 == 95)) = true := by simpa using c29))
              clear c29
              replace H := Option.bind_eq_some_iff.mp H
              obtain ⟨t115, A300, H⟩ := H
              replace H : (some t115) = some r := H
              have A30 := Aside0.mk A300
              clear A300
              obtain rfl := Option.some.inj H
              go_enter Try.func3, Try.ntmps3
              go_wp2_with (first | ((with_reducible refine gate_callee (f := 9) rfl ?_); refine goesL_ (some 31) rfl rfl Try.func9 (by kernel_rfl) rfl #[.int .i32 a0] rfl (by (try simp only [List.map_toArray, List.map_cons, List.map_nil]); first | done | rfl | (simp only [List.length_drop, List.length_take]; rfl)) ?_; (with_reducible refine (impl_SyWord.calls a0 t114 _ A28.out).mono ?_); rintro e w' ⟨rfl, ⟨nd, rfl⟩⟩; refine ⟨_, rfl, ?_⟩) | (go_at_call 9; (with_reducible refine (impl_SyWord.calls 122 t115 _ A30.out).mono ?_); rintro e w' ⟨rfl, ⟨nd, rfl⟩⟩))
              go_ret
              exact ⟨by first | rfl | (simp; done) | (simp [*]; done), by repeat (first | exact Drawn0.refl _ | apply Drawn0.step)⟩
            · rw [if_neg c29] at H
              have c29b0 : (t114 == (a0 == 95)) = false := by simpa using c29
              (try (have c29b1 : decide (t114 = (a0 == 95)) = false := by simpa using c29))
              (try (have c29b2 : (t114 == (a0 == 95)) = false := by simpa using c29))
              (try (have c29b3 : ¬ (t114 = (a0 == 95)) := by simpa using c29))
              clear c29
              obtain rfl := Option.some.inj H
              go_enter Try.func3, Try.ntmps3
              go_wp2_with (first | ((with_reducible refine gate_callee (f := 9) rfl ?_); refine goesL_ (some 31) rfl rfl Try.func9 (by kernel_rfl) rfl #[.int .i32 a0] rfl (by (try simp only [List.map_toArray, List.map_cons, List.map_nil]); first | done | rfl | (simp only [List.length_drop, List.length_take]; rfl)) ?_; (with_reducible refine (impl_SyWord.calls a0 t114 _ A28.out).mono ?_); rintro e w' ⟨rfl, ⟨nd, rfl⟩⟩; refine ⟨_, rfl, ?_⟩))
              go_ret
              exact ⟨by first | rfl | (simp; done) | (simp [*]; done), by repeat (first | exact Drawn0.refl _ | apply Drawn0.step)⟩
        · rw [if_neg c23] at H
          have c23b0 : decide (48 ≤ a0) = false := decide_eq_false c23
          clear c23
          replace H := Option.bind_eq_some_iff.mp H
          obtain ⟨t116, A310, H⟩ := H
          replace H : (if (t116 == (a0 == 95)) = true then ((impl_SyWord.f 122).bind fun t117 => (some t117)) else (some false)) = some r := H
          have A31 := Aside0.mk A310
          clear A310
          by_cases c32 : (t116 == (a0 == 95)) = true
          · rw [if_pos c32] at H
            have c32b0 : (t116 == (a0 == 95)) = true := c32
            (try (have c32b1 : decide (t116 = (a0 == 95)) = true := by simpa using c32))
            (try (have c32b2 : (t116 == (a0 == 95)) = true := by simpa using c32))
            clear c32
            replace H := Option.bind_eq_some_iff.mp H
            obtain ⟨t117, A330, H⟩ := H
            replace H : (some t117) = some r := H
            have A33 := Aside0.mk A330
            clear A330
            obtain rfl := Option.some.inj H
            go_enter Try.func3, Try.ntmps3
            go_wp2_with (first | ((with_reducible refine gate_callee (f := 9) rfl ?_); refine goesL_ (some 31) rfl rfl Try.func9 (by kernel_rfl) rfl #[.int .i32 a0] rfl (by (try simp only [List.map_toArray, List.map_cons, List.map_nil]); first | done | rfl | (simp only [List.length_drop, List.length_take]; rfl)) ?_; (with_reducible refine (impl_SyWord.calls a0 t116 _ A31.out).mono ?_); rintro e w' ⟨rfl, ⟨nd, rfl⟩⟩; refine ⟨_, rfl, ?_⟩) | (go_at_call 9; (with_reducible refine (impl_SyWord.calls 122 t117 _ A33.out).mono ?_); rintro e w' ⟨rfl, ⟨nd, rfl⟩⟩))
            go_ret
            exact ⟨by first | rfl | (simp; done) | (simp [*]; done), by repeat (first | exact Drawn0.refl _ | apply Drawn0.step)⟩
          · rw [if_neg c32] at H
            have c32b0 : (t116 == (a0 == 95)) = false := by simpa using c32
            (try (have c32b1 : decide (t116 = (a0 == 95)) = false := by simpa using c32))
            (try (have c32b2 : (t116 == (a0 == 95)) = false := by simpa using c32))
            (try (have c32b3 : ¬ (t116 = (a0 == 95)) := by simpa using c32))
            clear c32
            obtain rfl := Option.some.inj H
            go_enter Try.func3, Try.ntmps3
            go_wp2_with (first | ((with_reducible refine gate_callee (f := 9) rfl ?_); refine goesL_ (some 31) rfl rfl Try.func9 (by kernel_rfl) rfl #[.int .i32 a0] rfl (by (try simp only [List.map_toArray, List.map_cons, List.map_nil]); first | done | rfl | (simp only [List.length_drop, List.length_take]; rfl)) ?_; (with_reducible refine (impl_SyWord.calls a0 t116 _ A31.out).mono ?_); rintro e w' ⟨rfl, ⟨nd, rfl⟩⟩; refine ⟨_, rfl, ?_⟩))
            go_ret
            exact ⟨by first | rfl | (simp; done) | (simp [*]; done), by repeat (first | exact Drawn0.refl _ | apply Drawn0.step)⟩
  · rw [if_neg c2] at H
    have c2b0 : decide (97 ≤ a0) = false := decide_eq_false c2
    clear c2
    by_cases c34 : a0 ≥ 65
    · rw [if_pos c34] at H
      have c34b0 : decide (65 ≤ a0) = true := decide_eq_true c34
      clear c34
      by_cases c35 : a0 ≤ 90
      · rw [if_pos c35] at H
        have c35b0 : decide (a0 ≤ 90) = true := decide_eq_true c35
        clear c35
        replace H := Option.bind_eq_some_iff.mp H
        obtain ⟨t118, A360, H⟩ := H
        replace H : (if (t118 == true) = true then ((impl_SyWord.f 122).bind fun t119 => (some t119)) else (some false)) = some r := H
        have A36 := Aside0.mk A360
        clear A360
        by_cases c37 : (t118 == true) = true
        · rw [if_pos c37] at H
          have c37b0 : (t118 == true) = true := c37
          (try (have c37b1 : decide (t118 = true) = true := by simpa using c37))
          (try (have c37b2 : (t118 == true) = true := by simpa using c37))
          clear c37
          replace H := Option.bind_eq_some_iff.mp H
          obtain ⟨t119, A380, H⟩ := H
          replace H : (some t119) = some r := H
          have A38 := Aside0.mk A380
          clear A380
          obtain rfl := Option.some.inj H
          go_enter Try.func3, Try.ntmps3
          go_wp2_with (first | ((with_reducible refine gate_callee (f := 9) rfl ?_); refine goesL_ (some 31) rfl rfl Try.func9 (by kernel_rfl) rfl #[.int .i32 a0] rfl (by (try simp only [List.map_toArray, List.map_cons, List.map_nil]); first | done | rfl | (simp only [List.length_drop, List.length_take]; rfl)) ?_; (with_reducible refine (impl_SyWord.calls a0 t118 _ A36.out).mono ?_); rintro e w' ⟨rfl, ⟨nd, rfl⟩⟩; refine ⟨_, rfl, ?_⟩) | (go_at_call 9; (with_reducible refine (impl_SyWord.calls 122 t119 _ A38.out).mono ?_); rintro e w' ⟨rfl, ⟨nd, rfl⟩⟩))
          go_ret
          exact ⟨by first | rfl | (simp; done) | (simp [*]; done), by repeat (first | exact Drawn0.refl _ | apply Drawn0.step)⟩
        · rw [if_neg c37] at H
          have c37b0 : (t118 == true) = false := by simpa using c37
          (try (have c37b1 : decide (t118 = true) = false := by simpa using c37))
          (try (have c37b2 : (t118 == true) = false := by simpa using c37))
          (try (have c37b3 : ¬ (t118 = true) := by simpa using c37))
          clear c37
          obtain rfl := Option.some.inj H
          go_enter Try.func3, Try.ntmps3
          go_wp2_with (first | ((with_reducible refine gate_callee (f := 9) rfl ?_); refine goesL_ (some 31) rfl rfl Try.func9 (by kernel_rfl) rfl #[.int .i32 a0] rfl (by (try simp only [List.map_toArray, List.map_cons, List.map_nil]); first | done | rfl | (simp only [List.length_drop, List.length_take]; rfl)) ?_; (with_reducible refine (impl_SyWord.calls a0 t118 _ A36.out).mono ?_); rintro e w' ⟨rfl, ⟨nd, rfl⟩⟩; refine ⟨_, rfl, ?_⟩))
          go_ret
          exact ⟨by first | rfl | (simp; done) | (simp [*]; done), by repeat (first | exact Drawn0.refl _ | apply Drawn0.step)⟩
      · rw [if_neg c35] at H
        have c35b0 : decide (a0 ≤ 90) = false := decide_eq_false c35
        clear c35
        by_cases c39 : a0 ≥ 48
        · rw [if_pos c39] at H
          have c39b0 : decide (48 ≤ a0) = true := decide_eq_true c39
          clear c39
          by_cases c40 : a0 ≤ 57
          · rw [if_pos c40] at H
            have c40b0 : decide (a0 ≤ 57) = true := decide_eq_true c40
            clear c40
            replace H := Option.bind_eq_some_iff.mp H
            obtain ⟨t120, A410, H⟩ := H
            replace H : (if (t120 == true) = true then ((impl_SyWord.f 122).bind fun t121 => (some t121)) else (some false)) = some r := H
            have A41 := Aside0.mk A410
            clear A410
            by_cases c42 : (t120 == true) = true
            · rw [if_pos c42] at H
              have c42b0 : (t120 == true) = true := c42
              (try (have c42b1 : decide (t120 = true) = true := by simpa using c42))
              (try (have c42b2 : (t120 == true) = true := by simpa using c42))
              clear c42
              replace H := Option.bind_eq_some_iff.mp H
              obtain ⟨t121, A430, H⟩ := H
              replace H : (some t121) = some r := H
              have A43 := Aside0.mk A430
              clear A430
              obtain rfl := Option.some.inj H
              go_enter Try.func3, Try.ntmps3
              go_wp2_with (first | ((with_reducible refine gate_callee (f := 9) rfl ?_); refine goesL_ (some 31) rfl rfl Try.func9 (by kernel_rfl) rfl #[.int .i32 a0] rfl (by (try simp only [List.map_toArray, List.map_cons, List.map_nil]); first | done | rfl | (simp only [List.length_drop, List.length_take]; rfl)) ?_; (with_reducible refine (impl_SyWord.calls a0 t120 _ A41.out).mono ?_); rintro e w' ⟨rfl, ⟨nd, rfl⟩⟩; refine ⟨_, rfl, ?_⟩) | (go_at_call 9; (with_reducible refine (impl_SyWord.calls 122 t121 _ A43.out).mono ?_); rintro e w' ⟨rfl, ⟨nd, rfl⟩⟩))
              go_ret
              exact ⟨by first | rfl | (simp; done) | (simp [*]; done), by repeat (first | exact Drawn0.refl _ | apply Drawn0.step)⟩
            · rw [if_neg c42] at H
              have c42b0 : (t120 == true) = false := by simpa using c42
              (try (have c42b1 : decide (t120 = true) = false := by simpa using c42))
              (try (have c42b2 : (t120 == true) = false := by simpa using c42))
              (try (have c42b3 : ¬ (t120 = true) := by simpa using c42))
              clear c42
              obtain rfl := Option.some.inj H
              go_enter Try.func3, Try.ntmps3
              go_wp2_with (first | ((with_reducible refine gate_callee (f := 9) rfl ?_); refine goesL_ (some 31) rfl rfl Try.func9 (by kernel_rfl) rfl #[.int .i32 a0] rfl (by (try simp only [List.map_toArray, List.map_cons, List.map_nil]); first | done | rfl | (simp only [List.length_drop, List.length_take]; rfl)) ?_; (with_reducible refine (impl_SyWord.calls a0 t120 _ A41.out).mono ?_); rintro e w' ⟨rfl, ⟨nd, rfl⟩⟩; refine ⟨_, rfl, ?_⟩))
              go_ret
              exact ⟨by first | rfl | (simp; done) | (simp [*]; done), by repeat (first | exact Drawn0.refl _ | apply Drawn0.step)⟩
          · rw [if_neg c40] at H
            have c40b0 : decide (a0 ≤ 57) = false := decide_eq_false c40
            clear c40
            replace H := Option.bind_eq_some_iff.mp H
            obtain ⟨t122, A440, H⟩ := H
            replace H : (if (t122 == (a0 == 95)) = true then ((impl_SyWord.f 122).bind fun t123 => (some t123)) else (some false)) = some r := H
            have A44 := Aside0.mk A440
            clear A440
            by_cases c45 : (t122 == (a0 == 95)) = true
            · rw [if_pos c45] at H
              have c45b0 : (t122 == (a0 == 95)) = true := c45
              (try (have c45b1 : decide (t122 = (a0 == 95)) = true := by simpa using c45))
              (try (have c45b2 : (t122 == (a0 == 95)) = true := by simpa using c45))
              clear c45
              replace H := Option.bind_eq_some_iff.mp H
              obtain ⟨t123, A460, H⟩ := H
              replace H : (some t123) = some r := H
              have A46 := Aside0.mk A460
              clear A460
              obtain rfl := Option.some.inj H
              go_enter Try.func3, Try.ntmps3
              go_wp2_with (first | ((with_reducible refine gate_callee (f := 9) rfl ?_); refine goesL_ (some 31) rfl rfl Try.func9 (by kernel_rfl) rfl #[.int .i32 a0] rfl (by (try simp only [List.map_toArray, List.map_cons, List.map_nil]); first | done | rfl | (simp only [List.length_drop, List.length_take]; rfl)) ?_; (with_reducible refine (impl_SyWord.calls a0 t122 _ A44.out).mono ?_); rintro e w' ⟨rfl, ⟨nd, rfl⟩⟩; refine ⟨_, rfl, ?_⟩) | (go_at_call 9; (with_reducible refine (impl_SyWord.calls 122 t123 _ A46.out).mono ?_); rintro e w' ⟨rfl, ⟨nd, rfl⟩⟩))
              go_ret
              exact ⟨by first | rfl | (simp; done) | (simp [*]; done), by repeat (first | exact Drawn0.refl _ | apply Drawn0.step)⟩
            · rw [if_neg c45] at H
              have c45b0 : (t122 == (a0 == 95)) = false := by simpa using c45
              (try (have c45b1 : decide (t122 = (a0 == 95)) = false := by simpa using c45))
              (try (have c45b2 : (t122 == (a0 == 95)) = false := by simpa using c45))
              (try (have c45b3 : ¬ (t122 = (a0 == 95)) := by simpa using c45))
              clear c45
              obtain rfl := Option.some.inj H
              go_enter Try.func3, Try.ntmps3
              go_wp2_with (first | ((with_reducible refine gate_callee (f := 9) rfl ?_); refine goesL_ (some 31) rfl rfl Try.func9 (by kernel_rfl) rfl #[.int .i32 a0] rfl (by (try simp only [List.map_toArray, List.map_cons, List.map_nil]); first | done | rfl | (simp only [List.length_drop, List.length_take]; rfl)) ?_; (with_reducible refine (impl_SyWord.calls a0 t122 _ A44.out).mono ?_); rintro e w' ⟨rfl, ⟨nd, rfl⟩⟩; refine ⟨_, rfl, ?_⟩))
              go_ret
              exact ⟨by first | rfl | (simp; done) | (simp [*]; done), by repeat (first | exact Drawn0.refl _ | apply Drawn0.step)⟩
        · rw [if_neg c39] at H
          have c39b0 : decide (48 ≤ a0) = false := decide_eq_false c39
          clear c39
          replace H := Option.bind_eq_some_iff.mp H
          obtain ⟨t124, A470, H⟩ := H
          replace H : (if (t124 == (a0 == 95)) = true then ((impl_SyWord.f 122).bind fun t125 => (some t125)) else (some false)) = some r := H
          have A47 := Aside0.mk A470
          clear A470
          by_cases c48 : (t124 == (a0 == 95)) = true
          · rw [if_pos c48] at H
            have c48b0 : (t124 == (a0 == 95)) = true := c48
            (try (have c48b1 : decide (t124 = (a0 == 95)) = true := by simpa using c48))
            (try (have c48b2 : (t124 == (a0 == 95)) = true := by simpa using c48))
            clear c48
            replace H := Option.bind_eq_some_iff.mp H
            obtain ⟨t125, A490, H⟩ := H
            replace H : (some t125) = some r := H
            have A49 := Aside0.mk A490
            clear A490
            obtain rfl := Option.some.inj H
            go_enter Try.func3, Try.ntmps3
            go_wp2_with (first | ((with_reducible refine gate_callee (f := 9) rfl ?_); refine goesL_ (some 31) rfl rfl Try.func9 (by kernel_rfl) rfl #[.int .i32 a0] rfl (by (try simp only [List.map_toArray, List.map_cons, List.map_nil]); first | done | rfl | (simp only [List.length_drop, List.length_take]; rfl)) ?_; (with_reducible refine (impl_SyWord.calls a0 t124 _ A47.out).mono ?_); rintro e w' ⟨rfl, ⟨nd, rfl⟩⟩; refine ⟨_, rfl, ?_⟩) | (go_at_call 9; (with_reducible refine (impl_SyWord.calls 122 t125 _ A49.out).mono ?_); rintro e w' ⟨rfl, ⟨nd, rfl⟩⟩))
            go_ret
            exact ⟨by first | rfl | (simp; done) | (simp [*]; done), by repeat (first | exact Drawn0.refl _ | apply Drawn0.step)⟩
          · rw [if_neg c48] at H
            have c48b0 : (t124 == (a0 == 95)) = false := by simpa using c48
            (try (have c48b1 : decide (t124 = (a0 == 95)) = false := by simpa using c48))
            (try (have c48b2 : (t124 == (a0 == 95)) = false := by simpa using c48))
            (try (have c48b3 : ¬ (t124 = (a0 == 95)) := by simpa using c48))
            clear c48
            obtain rfl := Option.some.inj H
            go_enter Try.func3, Try.ntmps3
            go_wp2_with (first | ((with_reducible refine gate_callee (f := 9) rfl ?_); refine goesL_ (some 31) rfl rfl Try.func9 (by kernel_rfl) rfl #[.int .i32 a0] rfl (by (try simp only [List.map_toArray, List.map_cons, List.map_nil]); first | done | rfl | (simp only [List.length_drop, List.length_take]; rfl)) ?_; (with_reducible refine (impl_SyWord.calls a0 t124 _ A47.out).mono ?_); rintro e w' ⟨rfl, ⟨nd, rfl⟩⟩; refine ⟨_, rfl, ?_⟩))
            go_ret
            exact ⟨by first | rfl | (simp; done) | (simp [*]; done), by repeat (first | exact Drawn0.refl _ | apply Drawn0.step)⟩
    · rw [if_neg c34] at H
      have c34b0 : decide (65 ≤ a0) = false := decide_eq_false c34
      clear c34
      by_cases c50 : a0 ≥ 48
      · rw [if_pos c50] at H
        have c50b0 : decide (48 ≤ a0) = true := decide_eq_true c50
        clear c50
        by_cases c51 : a0 ≤ 57
        · rw [if_pos c51] at H
          have c51b0 : decide (a0 ≤ 57) = true := decide_eq_true c51
          clear c51
          replace H := Option.bind_eq_some_iff.mp H
          obtain ⟨t126, A520, H⟩ := H
          replace H : (if (t126 == true) = true then ((impl_SyWord.f 122).bind fun t127 => (some t127)) else (some false)) = some r := H
          have A52 := Aside0.mk A520
          clear A520
          by_cases c53 : (t126 == true) = true
          · rw [if_pos c53] at H
            have c53b0 : (t126 == true) = true := c53
            (try (have c53b1 : decide (t126 = true) = true := by simpa using c53))
            (try (have c53b2 : (t126 == true) = true := by simpa using c53))
            clear c53
            replace H := Option.bind_eq_some_iff.mp H
            obtain ⟨t127, A540, H⟩ := H
            replace H : (some t127) = some r := H
            have A54 := Aside0.mk A540
            clear A540
            obtain rfl := Option.some.inj H
            go_enter Try.func3, Try.ntmps3
            go_wp2_with (first | ((with_reducible refine gate_callee (f := 9) rfl ?_); refine goesL_ (some 31) rfl rfl Try.func9 (by kernel_rfl) rfl #[.int .i32 a0] rfl (by (try simp only [List.map_toArray, List.map_cons, List.map_nil]); first | done | rfl | (simp only [List.length_drop, List.length_take]; rfl)) ?_; (with_reducible refine (impl_SyWord.calls a0 t126 _ A52.out).mono ?_); rintro e w' ⟨rfl, ⟨nd, rfl⟩⟩; refine ⟨_, rfl, ?_⟩) | (go_at_call 9; (with_reducible refine (impl_SyWord.calls 122 t127 _ A54.out).mono ?_); rintro e w' ⟨rfl, ⟨nd, rfl⟩⟩))
            go_ret
            exact ⟨by first | rfl | (simp; done) | (simp [*]; done), by repeat (first | exact Drawn0.refl _ | apply Drawn0.step)⟩
          · rw [if_neg c53] at H
            have c53b0 : (t126 == true) = false := by simpa using c53
            (try (have c53b1 : decide (t126 = true) = false := by simpa using c53))
            (try (have c53b2 : (t126 == true) = false := by simpa using c53))
            (try (have c53b3 : ¬ (t126 = true) := by simpa using c53))
            clear c53
            obtain rfl := Option.some.inj H
            go_enter Try.func3, Try.ntmps3
            go_wp2_with (first | ((with_reducible refine gate_callee (f := 9) rfl ?_); refine goesL_ (some 31) rfl rfl Try.func9 (by kernel_rfl) rfl #[.int .i32 a0] rfl (by (try simp only [List.map_toArray, List.map_cons, List.map_nil]); first | done | rfl | (simp only [List.length_drop, List.length_take]; rfl)) ?_; (with_reducible refine (impl_SyWord.calls a0 t126 _ A52.out).mono ?_); rintro e w' ⟨rfl, ⟨nd, rfl⟩⟩; refine ⟨_, rfl, ?_⟩))
            go_ret
            exact ⟨by first | rfl | (simp; done) | (simp [*]; done), by repeat (first | exact Drawn0.refl _ | apply Drawn0.step)⟩
        · rw [if_neg c51] at H
          have c51b0 : decide (a0 ≤ 57) = false := decide_eq_false c51
          clear c51
          replace H := Option.bind_eq_some_iff.mp H
          obtain ⟨t128, A550, H⟩ := H
          replace H : (if (t128 == (a0 == 95)) = true then ((impl_SyWord.f 122).bind fun t129 => (some t129)) else (some false)) = some r := H
          have A55 := Aside0.mk A550
          clear A550
          by_cases c56 : (t128 == (a0 == 95)) = true
          · rw [if_pos c56] at H
            have c56b0 : (t128 == (a0 == 95)) = true := c56
            (try (have c56b1 : decide (t128 = (a0 == 95)) = true := by simpa using c56))
            (try (have c56b2 : (t128 == (a0 == 95)) = true := by simpa using c56))
            clear c56
            replace H := Option.bind_eq_some_iff.mp H
            obtain ⟨t129, A570, H⟩ := H
            replace H : (some t129) = some r := H
            have A57 := Aside0.mk A570
            clear A570
            obtain rfl := Option.some.inj H
            go_enter Try.func3, Try.ntmps3
            go_wp2_with (first | ((with_reducible refine gate_callee (f := 9) rfl ?_); refine goesL_ (some 31) rfl rfl Try.func9 (by kernel_rfl) rfl #[.int .i32 a0] rfl (by (try simp only [List.map_toArray, List.map_cons, List.map_nil]); first | done | rfl | (simp only [List.length_drop, List.length_take]; rfl)) ?_; (with_reducible refine (impl_SyWord.calls a0 t128 _ A55.out).mono ?_); rintro e w' ⟨rfl, ⟨nd, rfl⟩⟩; refine ⟨_, rfl, ?_⟩) | (go_at_call 9; (with_reducible refine (impl_SyWord.calls 122 t129 _ A57.out).mono ?_); rintro e w' ⟨rfl, ⟨nd, rfl⟩⟩))
            go_ret
            exact ⟨by first | rfl | (simp; done) | (simp [*]; done), by repeat (first | exact Drawn0.refl _ | apply Drawn0.step)⟩
          · rw [if_neg c56] at H
            have c56b0 : (t128 == (a0 == 95)) = false := by simpa using c56
            (try (have c56b1 : decide (t128 = (a0 == 95)) = false := by simpa using c56))
            (try (have c56b2 : (t128 == (a0 == 95)) = false := by simpa using c56))
            (try (have c56b3 : ¬ (t128 = (a0 == 95)) := by simpa using c56))
            clear c56
            obtain rfl := Option.some.inj H
            go_enter Try.func3, Try.ntmps3
            go_wp2_with (first | ((with_reducible refine gate_callee (f := 9) rfl ?_); refine goesL_ (some 31) rfl rfl Try.func9 (by kernel_rfl) rfl #[.int .i32 a0] rfl (by (try simp only [List.map_toArray, List.map_cons, List.map_nil]); first | done | rfl | (simp only [List.length_drop, List.length_take]; rfl)) ?_; (with_reducible refine (impl_SyWord.calls a0 t128 _ A55.out).mono ?_); rintro e w' ⟨rfl, ⟨nd, rfl⟩⟩; refine ⟨_, rfl, ?_⟩))
            go_ret
            exact ⟨by first | rfl | (simp; done) | (simp [*]; done), by repeat (first | exact Drawn0.refl _ | apply Drawn0.step)⟩
      · rw [if_neg c50] at H
        have c50b0 : decide (48 ≤ a0) = false := decide_eq_false c50
        clear c50
        replace H := Option.bind_eq_some_iff.mp H
        obtain ⟨t130, A580, H⟩ := H
        replace H : (if (t130 == (a0 == 95)) = true then ((impl_SyWord.f 122).bind fun t131 => (some t131)) else (some false)) = some r := H
        have A58 := Aside0.mk A580
        clear A580
        by_cases c59 : (t130 == (a0 == 95)) = true
        · rw [if_pos c59] at H
          have c59b0 : (t130 == (a0 == 95)) = true := c59
          (try (have c59b1 : decide (t130 = (a0 == 95)) = true := by simpa using c59))
          (try (have c59b2 : (t130 == (a0 == 95)) = true := by simpa using c59))
          clear c59
          replace H := Option.bind_eq_some_iff.mp H
          obtain ⟨t131, A600, H⟩ := H
          replace H : (some t131) = some r := H
          have A60 := Aside0.mk A600
          clear A600
          obtain rfl := Option.some.inj H
          go_enter Try.func3, Try.ntmps3
          go_wp2_with (first | ((with_reducible refine gate_callee (f := 9) rfl ?_); refine goesL_ (some 31) rfl rfl Try.func9 (by kernel_rfl) rfl #[.int .i32 a0] rfl (by (try simp only [List.map_toArray, List.map_cons, List.map_nil]); first | done | rfl | (simp only [List.length_drop, List.length_take]; rfl)) ?_; (with_reducible refine (impl_SyWord.calls a0 t130 _ A58.out).mono ?_); rintro e w' ⟨rfl, ⟨nd, rfl⟩⟩; refine ⟨_, rfl, ?_⟩) | (go_at_call 9; (with_reducible refine (impl_SyWord.calls 122 t131 _ A60.out).mono ?_); rintro e w' ⟨rfl, ⟨nd, rfl⟩⟩))
          go_ret
          exact ⟨by first | rfl | (simp; done) | (simp [*]; done), by repeat (first | exact Drawn0.refl _ | apply Drawn0.step)⟩
        · rw [if_neg c59] at H
          have c59b0 : (t130 == (a0 == 95)) = false := by simpa using c59
          (try (have c59b1 : decide (t130 = (a0 == 95)) = false := by simpa using c59))
          (try (have c59b2 : (t130 == (a0 == 95)) = false := by simpa using c59))
          (try (have c59b3 : ¬ (t130 = (a0 == 95)) := by simpa using c59))
          clear c59
          obtain rfl := Option.some.inj H
          go_enter Try.func3, Try.ntmps3
          go_wp2_with (first | ((with_reducible refine gate_callee (f := 9) rfl ?_); refine goesL_ (some 31) rfl rfl Try.func9 (by kernel_rfl) rfl #[.int .i32 a0] rfl (by (try simp only [List.map_toArray, List.map_cons, List.map_nil]); first | done | rfl | (simp only [List.length_drop, List.length_take]; rfl)) ?_; (with_reducible refine (impl_SyWord.calls a0 t130 _ A58.out).mono ?_); rintro e w' ⟨rfl, ⟨nd, rfl⟩⟩; refine ⟨_, rfl, ?_⟩))
          go_ret
          exact ⟨by first | rfl | (simp; done) | (simp [*]; done), by repeat (first | exact Drawn0.refl _ | apply Drawn0.step)⟩

/-- THE ONE PURE STATEMENT of laws_FnSyWord: yours. -/
def laws_FnSyWord.Pure : Prop := ∀ (a0 : Int), (Lit.int .i32 a0).wf = true → laws_FnSyWord.f a0 = some true
theorem laws_FnSyWord.walk (P : laws_FnSyWord.Pure) (a0 : Int) (w : World) (w0 : (Lit.int .i32 a0).wf = true) :
    Calls Try.prog 3 #[.int .i32 a0] w fun e w' => e = .returned (.bool true) ∧ Below w.heap.size w w' := by
  have h := P a0 w0
  refine (laws_FnSyWord.calls a0 true w h).mono ?_
  rintro e w' ⟨rfl, hd⟩
  exact ⟨rfl, hd.below⟩

end Go.Proofs.Ytholpemmakdglaa.PFnSyWord
