/- The law on the repeats of a tree. -/
import Derived.Test.YtholpemmakdglaaTZFnSyRepeatValid
namespace Go.Proofs.Ytholpemmakdglaa.PFnSyRepeatValid
open Go.RowKit Go.Proofs.YtholpemmakdglaaW.PrintWords Go.Proofs.YtholpemmakdglaaW.PrintLast Go.Proofs.YtholpemmakdglaaW.PrintMore
set_option linter.unusedVariables false
set_option linter.unusedSimpArgs false
set_option maxRecDepth 100000 in
set_option maxHeartbeats 4000000 in
theorem law_c (t : Tr) (A2 : Option Addr) (c2 : Nat) (A7 : Option Addr) (c7 : Nat) (n : Int) (w : World) (hwf : wfT t) (hsz : szT t)
    (h2 : (Kd.int .i32).C w A2 t.f2.length t.f2) (hc2 : t.f2.length ≤ c2) (h7 : k35.C w A7 t.f7.length t.f7) (hc7 : t.f7.length ≤ c7) :
    Calls Try.prog 7 #[.agg #[.int .i64 t.f0, .int .i64 t.f1, .slice A2 t.f2.length c2, .int .i64 t.f3, .int .i64 t.f4, .int .i64 t.f5, .string t.f6, .slice A7 t.f7.length c7], .int .i64 n] w fun e w' => e = .returned (.bool true) ∧ Below w.heap.size w w' := by
  obtain ⟨z, hz⟩ : ∃ z, laws_zzFits1.f t.f0 t.f1 t.f2 t.f3 t.f4 t.f5 t.f6 t.f7 = some z := by 
    unfold laws_zzFits1.f
    by_cases a : (t.f2.length : Int) > 2147483647
    · exact ⟨false, by rw [if_pos a]⟩
    by_cases b : (t.f6.size : Int) > 2147483647
    · exact ⟨false, by rw [if_neg a, if_pos b]⟩
    by_cases c : (t.f7.length : Int) > 2147483647
    · exact ⟨false, by rw [if_neg a, if_neg b, if_pos c]⟩
    · exact ⟨true, by rw [if_neg a, if_neg b, if_neg c]⟩
  have C1 : Hid (∀ w1, Below w.heap.size w w1 → Calls Try.prog 16 #[.agg #[.int .i64 t.f0, .int .i64 t.f1, .slice A2 t.f2.length c2, .int .i64 t.f3, .int .i64 t.f4, .int .i64 t.f5, .string t.f6, .slice A7 t.f7.length c7]] w1 fun e w' => e = .returned (.bool z) ∧ Below w1.heap.size w1 w') := Lib.hid fun w1 hb =>
    laws_zzFits1.calls _ _ A2 c2 _ _ _ _ _ A7 c7 _ z w1 (Kd.C_below h2 hb) hc2 (Kd.C_below h7 hb) hc7 hz
  obtain ⟨k1, hk1⟩ := (sy_ev t hwf).rounds
  have C2 : Hid (∀ w1, Below w.heap.size w w1 → Calls Try.prog 17 #[.agg #[.int .i64 t.f0, .int .i64 t.f1, .slice A2 t.f2.length c2, .int .i64 t.f3, .int .i64 t.f4, .int .i64 t.f5, .string t.f6, .slice A7 t.f7.length c7]] w1 fun e w' => e = .returned (.bool (syT t)) ∧ Below w1.heap.size w1 w') := Lib.hid fun w1 hb =>
    laws_syTree.calls k1 _ _ A2 c2 _ _ _ _ _ A7 c7 _ _ w1 (Kd.C_below h2 hb) hc2 (Kd.C_below h7 hb) hc7 hk1
  obtain ⟨k2, hk2⟩ := (cop_ev t hwf).rounds
  have C3 : Hid (∀ w1, Below w.heap.size w w1 → Calls Try.prog 19 #[.agg #[.int .i64 t.f0, .int .i64 t.f1, .slice A2 t.f2.length c2, .int .i64 t.f3, .int .i64 t.f4, .int .i64 t.f5, .string t.f6, .slice A7 t.f7.length c7]] w1 fun e w' => e = .returned (.int .i64 (copT t)) ∧ Below w1.heap.size w1 w') := Lib.hid fun w1 hb =>
    spec_SyCopies.calls k2 _ _ A2 c2 _ _ _ _ _ A7 c7 _ _ w1 (Kd.C_below h2 hb) hc2 (Kd.C_below h7 hb) hc7 hk2
  have C4 : Hid (syT t = true → 1 ≤ n → n ≤ 1000 → ∀ w1, Below w.heap.size w w1 → Calls Try.prog 18 #[.agg #[.int .i64 t.f0, .int .i64 t.f1, .slice A2 t.f2.length c2, .int .i64 t.f3, .int .i64 t.f4, .int .i64 t.f5, .string t.f6, .slice A7 t.f7.length c7], .int .i64 n] w1 fun e w' => e = .returned (.tuple #[.bool (decide (copT t ≤ n)), .bool true]) ∧ Below w1.heap.size w1 w') := Lib.hid fun hs h1 hn w1 hb => by
    obtain ⟨hg, hnc⟩ := sy_good hsz hs
    have hrv : rvT t n = decide (copT t ≤ n) := by
      have := rv_cop t 1 n hg h1 hn
      rw [Bool.eq_iff_iff, this]
      simp
    rw [← hrv]
    exact syRepeatValid_c t A2 c2 A7 c7 n w1 hwf hsz hg hnc (Kd.C_below h2 hb) hc2 (Kd.C_below h7 hb) hc7 (by omega) hn
  clear hwf hsz h2 h7 hz hk1 hk2
  have hb1 : Below w.heap.size w (w.alloc (.cells #[.int .i64 t.f0, .int .i64 t.f1, .slice A2 t.f2.length c2, .int .i64 t.f3, .int .i64 t.f4, .int .i64 t.f5, .string t.f6, .slice A7 t.f7.length c7] 35)) := (Below.refl _ _).alloc (Nat.le_refl _) _
  have HB1 := Lib.hid hb1
  have k0 := Mem.blk_new w (.cells #[.int .i64 t.f0, .int .i64 t.f1, .slice A2 t.f2.length c2, .int .i64 t.f3, .int .i64 t.f4, .int .i64 t.f5, .string t.f6, .slice A7 t.f7.length c7] 35)
  have d0 : (w.alloc (.cells #[.int .i64 t.f0, .int .i64 t.f1, .slice A2 t.f2.length c2, .int .i64 t.f3, .int .i64 t.f4, .int .i64 t.f5, .string t.f6, .slice A7 t.f7.length c7] 35)).cell? ⟨w.heap.size, 0, none⟩ = some (.int .i64 t.f0) := (blk_cell k0 0).trans rfl
  have d1 : (w.alloc (.cells #[.int .i64 t.f0, .int .i64 t.f1, .slice A2 t.f2.length c2, .int .i64 t.f3, .int .i64 t.f4, .int .i64 t.f5, .string t.f6, .slice A7 t.f7.length c7] 35)).cell? ⟨w.heap.size, 1, none⟩ = some (.int .i64 t.f1) := (blk_cell k0 1).trans rfl
  have d2 : (w.alloc (.cells #[.int .i64 t.f0, .int .i64 t.f1, .slice A2 t.f2.length c2, .int .i64 t.f3, .int .i64 t.f4, .int .i64 t.f5, .string t.f6, .slice A7 t.f7.length c7] 35)).cell? ⟨w.heap.size, 2, none⟩ = some (.slice A2 t.f2.length c2) := (blk_cell k0 2).trans rfl
  have d3 : (w.alloc (.cells #[.int .i64 t.f0, .int .i64 t.f1, .slice A2 t.f2.length c2, .int .i64 t.f3, .int .i64 t.f4, .int .i64 t.f5, .string t.f6, .slice A7 t.f7.length c7] 35)).cell? ⟨w.heap.size, 3, none⟩ = some (.int .i64 t.f3) := (blk_cell k0 3).trans rfl
  have d4 : (w.alloc (.cells #[.int .i64 t.f0, .int .i64 t.f1, .slice A2 t.f2.length c2, .int .i64 t.f3, .int .i64 t.f4, .int .i64 t.f5, .string t.f6, .slice A7 t.f7.length c7] 35)).cell? ⟨w.heap.size, 4, none⟩ = some (.int .i64 t.f4) := (blk_cell k0 4).trans rfl
  have d5 : (w.alloc (.cells #[.int .i64 t.f0, .int .i64 t.f1, .slice A2 t.f2.length c2, .int .i64 t.f3, .int .i64 t.f4, .int .i64 t.f5, .string t.f6, .slice A7 t.f7.length c7] 35)).cell? ⟨w.heap.size, 5, none⟩ = some (.int .i64 t.f5) := (blk_cell k0 5).trans rfl
  have d6 : (w.alloc (.cells #[.int .i64 t.f0, .int .i64 t.f1, .slice A2 t.f2.length c2, .int .i64 t.f3, .int .i64 t.f4, .int .i64 t.f5, .string t.f6, .slice A7 t.f7.length c7] 35)).cell? ⟨w.heap.size, 6, none⟩ = some (.string t.f6) := (blk_cell k0 6).trans rfl
  have d7 : (w.alloc (.cells #[.int .i64 t.f0, .int .i64 t.f1, .slice A2 t.f2.length c2, .int .i64 t.f3, .int .i64 t.f4, .int .i64 t.f5, .string t.f6, .slice A7 t.f7.length c7] 35)).cell? ⟨w.heap.size, 7, none⟩ = some (.slice A7 t.f7.length c7) := (blk_cell k0 7).trans rfl
  clear k0 hb1
  cases z with
  | false =>
    go_enter Try.func7, Try.ntmps7
    go_wp2_with (go_at_call 16; refine (C1.out _ HB1.out).mono ?_; rintro e w2 ⟨rfl, hb2⟩)
    go_ret
    exact ⟨rfl, HB1.out.trans (hb2.mono HB1.out.size)⟩
  | true =>
    cases hs : syT t with
    | false =>
      rw [hs] at C2
      clear hs
      go_enter Try.func7, Try.ntmps7
      go_wp2_with (first
        | (go_at_call 16; refine (C1.out _ HB1.out).mono ?_; rintro e w2 ⟨rfl, hb2⟩; have HB2 := Lib.hid (HB1.out.trans (hb2.mono HB1.out.size)); have e0 := Gb.cellB hb2 d0; have e1 := Gb.cellB hb2 d1; have e2 := Gb.cellB hb2 d2; have e3 := Gb.cellB hb2 d3; have e4 := Gb.cellB hb2 d4; have e5 := Gb.cellB hb2 d5; have e6 := Gb.cellB hb2 d6; have e7 := Gb.cellB hb2 d7; clear d0 d1 d2 d3 d4 d5 d6 d7; clear hb2)
        | (go_at_call 17; refine (C2.out _ HB2.out).mono ?_; rintro e w3 ⟨rfl, hb3⟩))
      go_ret
      exact ⟨rfl, HB2.out.trans (hb3.mono HB2.out.size)⟩
    | true =>
      rw [hs] at C2
      by_cases hlo : n < 1
      · have hl1 : decide (n < 1) = true := by simpa using hlo
        clear hs hlo
        go_enter Try.func7, Try.ntmps7
        go_wp2_with (first
          | (go_at_call 16; refine (C1.out _ HB1.out).mono ?_; rintro e w2 ⟨rfl, hb2⟩; have HB2 := Lib.hid (HB1.out.trans (hb2.mono HB1.out.size)); have e0 := Gb.cellB hb2 d0; have e1 := Gb.cellB hb2 d1; have e2 := Gb.cellB hb2 d2; have e3 := Gb.cellB hb2 d3; have e4 := Gb.cellB hb2 d4; have e5 := Gb.cellB hb2 d5; have e6 := Gb.cellB hb2 d6; have e7 := Gb.cellB hb2 d7; clear d0 d1 d2 d3 d4 d5 d6 d7; clear hb2)
          | (go_at_call 17; refine (C2.out _ HB2.out).mono ?_; rintro e w3 ⟨rfl, hb3⟩))
        go_ret
        exact ⟨rfl, HB2.out.trans (hb3.mono HB2.out.size)⟩
      · have hl1 : decide (n < 1) = false := by simpa using hlo
        by_cases hhi : 1000 < n
        · have hl2 : decide (1000 < n) = true := by simpa using hhi
          clear hs hlo hhi
          go_enter Try.func7, Try.ntmps7
          go_wp2_with (first
            | (go_at_call 16; refine (C1.out _ HB1.out).mono ?_; rintro e w2 ⟨rfl, hb2⟩; have HB2 := Lib.hid (HB1.out.trans (hb2.mono HB1.out.size)); have e0 := Gb.cellB hb2 d0; have e1 := Gb.cellB hb2 d1; have e2 := Gb.cellB hb2 d2; have e3 := Gb.cellB hb2 d3; have e4 := Gb.cellB hb2 d4; have e5 := Gb.cellB hb2 d5; have e6 := Gb.cellB hb2 d6; have e7 := Gb.cellB hb2 d7; clear d0 d1 d2 d3 d4 d5 d6 d7; clear hb2)
            | (go_at_call 17; refine (C2.out _ HB2.out).mono ?_; rintro e w3 ⟨rfl, hb3⟩))
          go_ret
          exact ⟨rfl, HB2.out.trans (hb3.mono HB2.out.size)⟩
        · have hl2 : decide (1000 < n) = false := by simpa using hhi
          have C5 := Lib.hid (C4.out hs (by omega) (by omega))
          clear hs hlo hhi C4
          generalize hcp : copT t = cp at *
          clear hcp
          generalize hq : decide (cp ≤ n) = q at *
          go_enter Try.func7, Try.ntmps7
          go_wp2_with (first
            | (go_at_call 16; refine (C1.out _ HB1.out).mono ?_; rintro e w2 ⟨rfl, hb2⟩; have HB2 := Lib.hid (HB1.out.trans (hb2.mono HB1.out.size)); have e0 := Gb.cellB hb2 d0; have e1 := Gb.cellB hb2 d1; have e2 := Gb.cellB hb2 d2; have e3 := Gb.cellB hb2 d3; have e4 := Gb.cellB hb2 d4; have e5 := Gb.cellB hb2 d5; have e6 := Gb.cellB hb2 d6; have e7 := Gb.cellB hb2 d7; clear d0 d1 d2 d3 d4 d5 d6 d7; clear hb2)
            | (go_at_call 17; refine (C2.out _ HB2.out).mono ?_; rintro e w3 ⟨rfl, hb3⟩; have HB3 := Lib.hid (HB2.out.trans (hb3.mono HB2.out.size)); have x0 := Gb.cellB hb3 e0; have x1 := Gb.cellB hb3 e1; have x2 := Gb.cellB hb3 e2; have x3 := Gb.cellB hb3 e3; have x4 := Gb.cellB hb3 e4; have x5 := Gb.cellB hb3 e5; have x6 := Gb.cellB hb3 e6; have x7 := Gb.cellB hb3 e7; clear e0 e1 e2 e3 e4 e5 e6 e7; clear hb3)
            | (go_at_call 18; refine (C5.out _ HB3.out).mono ?_; rintro e w4 ⟨rfl, hb4⟩; have HB4 := Lib.hid (HB3.out.trans (hb4.mono HB3.out.size)); have y0 := Gb.cellB hb4 x0; have y1 := Gb.cellB hb4 x1; have y2 := Gb.cellB hb4 x2; have y3 := Gb.cellB hb4 x3; have y4 := Gb.cellB hb4 x4; have y5 := Gb.cellB hb4 x5; have y6 := Gb.cellB hb4 x6; have y7 := Gb.cellB hb4 x7; clear x0 x1 x2 x3 x4 x5 x6 x7; clear hb4)
            | (go_at_call 19; refine (C3.out _ HB4.out).mono ?_; rintro e w5 ⟨rfl, hb5⟩))
          go_ret
          exact ⟨rfl, HB4.out.trans (hb5.mono HB4.out.size)⟩
end Go.Proofs.Ytholpemmakdglaa.PFnSyRepeatValid
