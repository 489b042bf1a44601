-- PRINTED BY print.sh 35421559b90ae4d0a3588c463048766b98c2df88dd9212a6774a882060cdf62d: not written by this session
import Derived.Test.YtholpemmakdglaaPFnSyRepeatValidx0
namespace Go.Proofs.Ytholpemmakdglaa.PFnSyRepeatValid
open Go.RowKit Go.Proofs.YtholpemmakdglaaW.PrintWords Go.Proofs.YtholpemmakdglaaW.PrintLast Go.Proofs.YtholpemmakdglaaW.PrintMore
attribute [local go_sem] max2_int min2_int max_two min_two max_three min_three max_four min_four   -- for this text's walks alone
set_option linter.unusedVariables false
set_option linter.unusedSimpArgs false

-- NOT PRINTED: function 40 (impl_weigh)

-- NOT PRINTED: function 41 (impl_regexpOf)

-- NOT PRINTED: function 29 (impl_treeFor)

-- NOT PRINTED: function 42 (regexpsyntax_repeatIsValid)

-- NOT PRINTED: function 30 (regexpsyntax_ZZRepeatValid)

-- NOT PRINTED: function 18 (impl_SyRepeatValid)

/-! ### spec_SyCopies: function 19 -/
mutual
def spec_SyCopies.j0 : Nat → Int → Int → Int → List Int → Int → Int → Int → ByteArray → List (S35) → Option (Int)
  | 0, _, _, _, _, _, _, _, _, _ => none
  | k + 1, x3, x142000, x142001, x142002, x142003, x142004, x142005, x142006, x142007 => if x3 = 0 then (some 1) else (spec_SyCopies.l0 k x3 1 x142007 (x142007.length : Int) 0)
def spec_SyCopies.l0 : Nat → Int → Int → List (S35) → Int → Int → Option (Int)
  | 0, _, _, _, _, _ => none
  | k + 1, x3, x4, x20, x21, x22 => if x22 < x21 then (if 0 ≤ x22 then (if x22 < (x20.length : Int) then ((spec_SyCopies.f k ((rd_T35 x20 x22).f0) ((rd_T35 x20 x22).f1) ((rd_T35 x20 x22).f2) ((rd_T35 x20 x22).f3) ((rd_T35 x20 x22).f4) ((rd_T35 x20 x22).f5) ((rd_T35 x20 x22).f6) ((rd_T35 x20 x22).f7)).bind fun t144 => (spec_SyCopies.l0 k x3 (mx x4 t144) x20 x21 (wrap64 (x22 + 1)))) else (none)) else (none)) else (some (mn (wrap64 (x3 * x4)) 1001))
def spec_SyCopies.f : Nat → Int → Int → List Int → Int → Int → Int → ByteArray → List (S35) → Option (Int)
  | 0, _, _, _, _, _, _, _, _ => none
  | k + 1, a0_0, a0_1, l0_2, a0_3, a0_4, a0_5, a0_6, l0_7 => if a0_0 = 17 then (if a0_4 < 0 then (spec_SyCopies.j0 k (mx a0_3 1) a0_0 a0_1 l0_2 a0_3 a0_4 a0_5 a0_6 l0_7) else (spec_SyCopies.j0 k a0_4 a0_0 a0_1 l0_2 a0_3 a0_4 a0_5 a0_6 l0_7)) else (spec_SyCopies.j0 k 1 a0_0 a0_1 l0_2 a0_3 a0_4 a0_5 a0_6 l0_7)
end
theorem spec_SyCopies.mono_l : ∀ k, (∀ y0 y1 y2 y3 y4 y5 y6 y7, LeO (spec_SyCopies.f k y0 y1 y2 y3 y4 y5 y6 y7) (spec_SyCopies.f (k + 1) y0 y1 y2 y3 y4 y5 y6 y7)) ∧ (∀ y0 y1 y2 y3 y4 y5 y6 y7 y8, LeO (spec_SyCopies.j0 k y0 y1 y2 y3 y4 y5 y6 y7 y8) (spec_SyCopies.j0 (k + 1) y0 y1 y2 y3 y4 y5 y6 y7 y8)) ∧ (∀ y0 y1 y2 y3 y4, LeO (spec_SyCopies.l0 k y0 y1 y2 y3 y4) (spec_SyCopies.l0 (k + 1) y0 y1 y2 y3 y4))
  | 0 => ⟨fun _ _ _ _ _ _ _ _ r h => by simp [spec_SyCopies.f] at h, fun _ _ _ _ _ _ _ _ _ r h => by simp [spec_SyCopies.j0] at h, fun _ _ _ _ _ r h => by simp [spec_SyCopies.l0] at h⟩
  | k + 1 => by
    obtain ⟨ih0, ih1, ih2⟩ := spec_SyCopies.mono_l k
    refine ⟨?_, ?_, ?_⟩
    · intro y0 y1 y2 y3 y4 y5 y6 y7
      unfold spec_SyCopies.f
      repeat' first
      | (with_reducible exact ih0 _ _ _ _ _ _ _ _)
      | (with_reducible exact ih1 _ _ _ _ _ _ _ _ _)
      | (with_reducible exact ih2 _ _ _ _ _)
      | (with_reducible exact LeO.refl _)
      | (with_reducible exact LeO.none _)
      | (with_reducible refine LeO.ite ?_ ?_)
      | (with_reducible refine LeO.bind ?_ (fun _ => ?_))
      | exact ih0 _ _ _ _ _ _ _ _
      | exact ih1 _ _ _ _ _ _ _ _ _
      | exact ih2 _ _ _ _ _
      | exact LeO.none _
      | refine LeO.ite ?_ ?_
      | refine LeO.bind ?_ (fun _ => ?_)
    · intro y0 y1 y2 y3 y4 y5 y6 y7 y8
      unfold spec_SyCopies.j0
      repeat' first
      | (with_reducible exact ih0 _ _ _ _ _ _ _ _)
      | (with_reducible exact ih1 _ _ _ _ _ _ _ _ _)
      | (with_reducible exact ih2 _ _ _ _ _)
      | (with_reducible exact LeO.refl _)
      | (with_reducible exact LeO.none _)
      | (with_reducible refine LeO.ite ?_ ?_)
      | (with_reducible refine LeO.bind ?_ (fun _ => ?_))
      | exact ih0 _ _ _ _ _ _ _ _
      | exact ih1 _ _ _ _ _ _ _ _ _
      | exact ih2 _ _ _ _ _
      | exact LeO.none _
      | refine LeO.ite ?_ ?_
      | refine LeO.bind ?_ (fun _ => ?_)
    · intro y0 y1 y2 y3 y4
      unfold spec_SyCopies.l0
      repeat' first
      | (with_reducible exact ih0 _ _ _ _ _ _ _ _)
      | (with_reducible exact ih1 _ _ _ _ _ _ _ _ _)
      | (with_reducible exact ih2 _ _ _ _ _)
      | (with_reducible exact LeO.refl _)
      | (with_reducible exact LeO.none _)
      | (with_reducible refine LeO.ite ?_ ?_)
      | (with_reducible refine LeO.bind ?_ (fun _ => ?_))
      | exact ih0 _ _ _ _ _ _ _ _
      | exact ih1 _ _ _ _ _ _ _ _ _
      | exact ih2 _ _ _ _ _
      | exact LeO.none _
      | refine LeO.ite ?_ ?_
      | refine LeO.bind ?_ (fun _ => ?_)
theorem spec_SyCopies.mono : ∀ a0 a1 a2 a3 a4 a5 a6 a7 k, LeO (spec_SyCopies.f k a0 a1 a2 a3 a4 a5 a6 a7) (spec_SyCopies.f (k + 1) a0 a1 a2 a3 a4 a5 a6 a7) := by
  intro a0 a1 a2 a3 a4 a5 a6 a7 k
  obtain ⟨ih0, ih1, ih2⟩ := spec_SyCopies.mono_l k
  exact ih0 a0 a1 a2 a3 a4 a5 a6 a7
set_option maxHeartbeats 8000000 in
set_option maxRecDepth 100000 in
theorem spec_SyCopies.calls (k : Nat) : ∀ (a0_0 : Int) (a0_1 : Int) (A0_2 : Option Addr) (c0_2 : Nat) (l0_2 : List Int) (a0_3 : Int) (a0_4 : Int) (a0_5 : Int) (a0_6 : ByteArray) (A0_7 : Option Addr) (c0_7 : Nat) (l0_7 : List (S35)) (r : Int) (w : World) (hr0_2 : Kd.C (Kd.int .i32) w A0_2 l0_2.length l0_2) (hc0_2 : l0_2.length ≤ c0_2) (hr0_7 : Kd.C k35 w A0_7 l0_7.length l0_7) (hc0_7 : l0_7.length ≤ c0_7) (h : spec_SyCopies.f k a0_0 a0_1 l0_2 a0_3 a0_4 a0_5 a0_6 l0_7 = some r),
    Calls Try.prog 19 #[.agg #[.int .i64 a0_0, .int .i64 a0_1, .slice A0_2 l0_2.length c0_2, .int .i64 a0_3, .int .i64 a0_4, .int .i64 a0_5, .string a0_6, .slice A0_7 l0_7.length c0_7]] w fun e w' => e = .returned (.int .i64 r) ∧ Below w.heap.size w w' := by
  induction k using Nat.strongRecOn with
  | _ k ih =>
  intro a0_0 a0_1 A0_2 c0_2 l0_2 a0_3 a0_4 a0_5 a0_6 A0_7 c0_7 l0_7 r w hr0_2 hc0_2 hr0_7 hc0_7 h
  cases k with
  | zero => exact absurd h (by simp [spec_SyCopies.f])
  | succ k =>
  simp only [spec_SyCopies.f] at h
  have hu35 := Try.underlying35
  have HR0_2 := Aside0.mk hr0_2
  have HC0_2 := Aside0.mk hc0_2
  clear hr0_2 hc0_2
  have HR0_7 := Aside0.mk hr0_7
  have HC0_7 := Aside0.mk hc0_7
  clear hr0_7 hc0_7
  have HB := Aside0.mk (Below.refl w.heap.size w)
  have H : (if a0_0 = 17 then (if a0_4 < 0 then (spec_SyCopies.j0 k (mx a0_3 1) a0_0 a0_1 l0_2 a0_3 a0_4 a0_5 a0_6 l0_7) else (spec_SyCopies.j0 k a0_4 a0_0 a0_1 l0_2 a0_3 a0_4 a0_5 a0_6 l0_7)) else (spec_SyCopies.j0 k 1 a0_0 a0_1 l0_2 a0_3 a0_4 a0_5 a0_6 l0_7)) = some r := h
  clear h
  have HC2 := Aside0.mk H
  clear H
  go_enter Try.func19, Try.ntmps19
  go_upto_if 9 with (first | ((with_reducible refine gate_dst (N := 1) rfl ?_); refine box_event ?hg (N := 1) ?hd (cs := #[.int .i64 a0_0, .int .i64 a0_1, .slice A0_2 l0_2.length c0_2, .int .i64 a0_3, .int .i64 a0_4, .int .i64 a0_5, .string a0_6, .slice A0_7 l0_7.length c0_7]) (t := 35) ?hr ?_; (case hd => rfl); (case hg => rfl); (case hr => first | (go_simp; done) | (go_simp; rfl)); intro gb141 hg w3 hbox hb; have n0_ := Aside0.mk (below_step (by repeat (first | (with_reducible first | exact HB.out | apply below_alloc | apply pw_below_drewN | apply below_drew1) | exact HB.out)) hb); have n1_ := Aside0.mk (hbox); have n2_ := Aside0.mk ((by rw [hg]; exact (below_size (by repeat (first | (with_reducible first | exact HB.out | apply below_alloc | apply pw_below_drewN | apply below_drew1) | exact HB.out))) : w.heap.size ≤ gb141)); have n3_ := Aside0.mk ((by rw [hg]; exact (below_size (by repeat (first | (with_reducible first | exact HB.out | apply below_alloc | apply pw_below_drewN | apply below_drew1) | exact HB.out))) : w.heap.size ≤ gb141)); clear HB; have HB := n0_; have BK141 := n1_; have GW141 := n2_; have GE141 := n3_; clear n0_ n1_ n2_ n3_; clear hb hbox hg; have hcz4_0 : w3.cell? ⟨gb141, 0, none⟩ = some (.int .i64 a0_0) := (blk_cell BK141.out 0).trans rfl; have hcz4_1 : w3.cell? ⟨gb141, 1, none⟩ = some (.int .i64 a0_1) := (blk_cell BK141.out 1).trans rfl; have hcz4_2 : w3.cell? ⟨gb141, 2, none⟩ = some (.slice A0_2 l0_2.length c0_2) := (blk_cell BK141.out 2).trans rfl; have hcz4_3 : w3.cell? ⟨gb141, 3, none⟩ = some (.int .i64 a0_3) := (blk_cell BK141.out 3).trans rfl; have hcz4_4 : w3.cell? ⟨gb141, 4, none⟩ = some (.int .i64 a0_4) := (blk_cell BK141.out 4).trans rfl; have hcz4_5 : w3.cell? ⟨gb141, 5, none⟩ = some (.int .i64 a0_5) := (blk_cell BK141.out 5).trans rfl; have hcz4_6 : w3.cell? ⟨gb141, 6, none⟩ = some (.string a0_6) := (blk_cell BK141.out 6).trans rfl; have hcz4_7 : w3.cell? ⟨gb141, 7, none⟩ = some (.slice A0_7 l0_7.length c0_7) := (blk_cell BK141.out 7).trans rfl; have hfz4_0 := blk_frozen BK141.out 0; have hfz4_1 := blk_frozen BK141.out 1; have hfz4_2 := blk_frozen BK141.out 2; have hfz4_3 := blk_frozen BK141.out 3; have hfz4_4 := blk_frozen BK141.out 4; have hfz4_5 := blk_frozen BK141.out 5; have hfz4_6 := blk_frozen BK141.out 6; have hfz4_7 := blk_frozen BK141.out 7))
  (try simp only [Act.put, List.setIfInBounds_toArray, List.set_cons_zero, List.set_cons_succ])
  go_cut [3] (fun v3 wc => ∃ (kq : Nat) (x3_1 : Int), v3 = .int .i64 x3_1 ∧ Aside0 (spec_SyCopies.j0 kq x3_1 a0_0 a0_1 l0_2 a0_3 a0_4 a0_5 a0_6 l0_7 = some r) ∧ Aside0 (kq ≤ k) ∧ Aside0 (wc.heap[gb141]? = some (.cells #[.int .i64 a0_0, .int .i64 a0_1, (.slice A0_2 l0_2.length c0_2), .int .i64 a0_3, .int .i64 a0_4, .int .i64 a0_5, .string a0_6, (.slice A0_7 l0_7.length c0_7)] 35 (0, 0))) ∧ Aside0 (Below w.heap.size w wc))
  case first =>
    have H := HC2.out
    clear HC2
    by_cases c5 : a0_0 = 17
    · rw [if_pos c5] at H
      have c5b0 : (a0_0 == 17) = true := beq_iff_eq.mpr c5
      have c5b1 : (a0_0 != 17) = false := bne_eq_false_iff_eq.mpr c5
      clear c5
      (first | rw [c5b0] | (simp only [i64_w, i32_w]; rw [c5b0]) | skip)
      by_cases c6 : a0_4 < 0
      · rw [if_pos c6] at H
        have c6b0 : decide (a0_4 < 0) = true := decide_eq_true c6
        clear c6
        obtain ⟨ji7, hji7⟩ : ∃ j_ : Int, (mx a0_3 1) = j_ := ⟨_, rfl⟩
        replace H : (spec_SyCopies.j0 k ji7 a0_0 a0_1 l0_2 a0_3 a0_4 a0_5 a0_6 l0_7) = some r := by first | (rw [hji7] at H; exact H) | (simp only [hji7] at H ⊢; exact H)
        (try (have hji7l : 1 ≤ ji7 := by (rw [← hji7]; unfold mx; (repeat' split) <;> omega)))
        (try (have hji7m : 0 ≤ ji7 := by omega))
        have hji7_ : (if a0_3 < 1 then 1 else a0_3) = ji7 := hji7
        have H' := Aside0.mk H
        clear H
        have hcz8_0 : w3.cell? ⟨gb141, 0, none⟩ = some (.int .i64 a0_0) := (blk_cell BK141.out 0).trans rfl
        have hcz8_1 : w3.cell? ⟨gb141, 1, none⟩ = some (.int .i64 a0_1) := (blk_cell BK141.out 1).trans rfl
        have hcz8_2 : w3.cell? ⟨gb141, 2, none⟩ = some (.slice A0_2 l0_2.length c0_2) := (blk_cell BK141.out 2).trans rfl
        have hcz8_3 : w3.cell? ⟨gb141, 3, none⟩ = some (.int .i64 a0_3) := (blk_cell BK141.out 3).trans rfl
        have hcz8_4 : w3.cell? ⟨gb141, 4, none⟩ = some (.int .i64 a0_4) := (blk_cell BK141.out 4).trans rfl
        have hcz8_5 : w3.cell? ⟨gb141, 5, none⟩ = some (.int .i64 a0_5) := (blk_cell BK141.out 5).trans rfl
        have hcz8_6 : w3.cell? ⟨gb141, 6, none⟩ = some (.string a0_6) := (blk_cell BK141.out 6).trans rfl
        have hcz8_7 : w3.cell? ⟨gb141, 7, none⟩ = some (.slice A0_7 l0_7.length c0_7) := (blk_cell BK141.out 7).trans rfl
        have hfz8_0 := blk_frozen BK141.out 0
        have hfz8_1 := blk_frozen BK141.out 1
        have hfz8_2 := blk_frozen BK141.out 2
        have hfz8_3 := blk_frozen BK141.out 3
        have hfz8_4 := blk_frozen BK141.out 4
        have hfz8_5 := blk_frozen BK141.out 5
        have hfz8_6 := blk_frozen BK141.out 6
        have hfz8_7 := blk_frozen BK141.out 7
        go_wp2
        go_meet
        case rel => exact ⟨_, (ji7), (by first | rfl | (simp; done) | (simp only [← hji7] <;> (first | rfl | simp)) | (simp [*]; done)), H', ⟨by first | omega | exact Nat.le_refl _⟩, ⟨by (with_reducible repeat (first | refine blk_drewN ?_ _ | refine blk_drew ?_ | refine blk_alloc ?_ _)); exact BK141.out⟩, ⟨by repeat (first | (with_reducible first | exact HB.out | apply below_alloc | apply pw_below_drewN | apply below_drew1 | refine below_set ?_ GE141.out) | exact HB.out)⟩⟩
      · rw [if_neg c6] at H
        have c6b0 : decide (a0_4 < 0) = false := decide_eq_false c6
        clear c6
        have H' := Aside0.mk H
        clear H
        have hcz9_0 : w3.cell? ⟨gb141, 0, none⟩ = some (.int .i64 a0_0) := (blk_cell BK141.out 0).trans rfl
        have hcz9_1 : w3.cell? ⟨gb141, 1, none⟩ = some (.int .i64 a0_1) := (blk_cell BK141.out 1).trans rfl
        have hcz9_2 : w3.cell? ⟨gb141, 2, none⟩ = some (.slice A0_2 l0_2.length c0_2) := (blk_cell BK141.out 2).trans rfl
        have hcz9_3 : w3.cell? ⟨gb141, 3, none⟩ = some (.int .i64 a0_3) := (blk_cell BK141.out 3).trans rfl
        have hcz9_4 : w3.cell? ⟨gb141, 4, none⟩ = some (.int .i64 a0_4) := (blk_cell BK141.out 4).trans rfl
        have hcz9_5 : w3.cell? ⟨gb141, 5, none⟩ = some (.int .i64 a0_5) := (blk_cell BK141.out 5).trans rfl
        have hcz9_6 : w3.cell? ⟨gb141, 6, none⟩ = some (.string a0_6) := (blk_cell BK141.out 6).trans rfl
        have hcz9_7 : w3.cell? ⟨gb141, 7, none⟩ = some (.slice A0_7 l0_7.length c0_7) := (blk_cell BK141.out 7).trans rfl
        have hfz9_0 := blk_frozen BK141.out 0
        have hfz9_1 := blk_frozen BK141.out 1
        have hfz9_2 := blk_frozen BK141.out 2
        have hfz9_3 := blk_frozen BK141.out 3
        have hfz9_4 := blk_frozen BK141.out 4
        have hfz9_5 := blk_frozen BK141.out 5
        have hfz9_6 := blk_frozen BK141.out 6
        have hfz9_7 := blk_frozen BK141.out 7
        go_wp2
        go_meet
        case rel => exact ⟨_, (a0_4), (by first | rfl | (simp; done) | (simp [*]; done)), H', ⟨by first | omega | exact Nat.le_refl _⟩, ⟨by (with_reducible repeat (first | refine blk_drewN ?_ _ | refine blk_drew ?_ | refine blk_alloc ?_ _)); exact BK141.out⟩, ⟨by repeat (first | (with_reducible first | exact HB.out | apply below_alloc | apply pw_below_drewN | apply below_drew1 | refine below_set ?_ GE141.out) | exact HB.out)⟩⟩
    · rw [if_neg c5] at H
      have c5b0 : (a0_0 == 17) = false := beq_eq_false_iff_ne.mpr c5
      have c5b1 : (a0_0 != 17) = true := bne_iff_ne.mpr c5
      (first | rw [c5b0] | (simp only [i64_w, i32_w]; rw [c5b0]) | skip)
      have H' := Aside0.mk H
      clear H
      go_wp2
      go_meet
      case rel => exact ⟨_, (1), (by first | rfl | (simp; done) | (simp [*]; done)), H', ⟨by first | omega | exact Nat.le_refl _⟩, ⟨by (with_reducible repeat (first | refine blk_drewN ?_ _ | refine blk_drew ?_ | refine blk_alloc ?_ _)); exact BK141.out⟩, ⟨by repeat (first | (with_reducible first | exact HB.out | apply below_alloc | apply pw_below_drewN | apply below_drew1 | refine below_set ?_ GE141.out) | exact HB.out)⟩⟩
  case rest =>
    clear HC2
    try clear c1
    try clear p2
    try clear c5
    try clear c5b0
    try clear c5b1
    try clear c6
    try clear c6b0
    try clear hcz4_0
    try clear hcz4_1
    try clear hcz4_2
    try clear hcz4_3
    try clear hcz4_4
    try clear hcz4_5
    try clear hcz4_6
    try clear hcz4_7
    try clear hcz8_0
    try clear hcz8_1
    try clear hcz8_2
    try clear hcz8_3
    try clear hcz8_4
    try clear hcz8_5
    try clear hcz8_6
    try clear hcz8_7
    try clear hcz9_0
    try clear hcz9_1
    try clear hcz9_2
    try clear hcz9_3
    try clear hcz9_4
    try clear hcz9_5
    try clear hcz9_6
    try clear hcz9_7
    try clear hfz4_0
    try clear hfz4_1
    try clear hfz4_2
    try clear hfz4_3
    try clear hfz4_4
    try clear hfz4_5
    try clear hfz4_6
    try clear hfz4_7
    try clear hfz8_0
    try clear hfz8_1
    try clear hfz8_2
    try clear hfz8_3
    try clear hfz8_4
    try clear hfz8_5
    try clear hfz8_6
    try clear hfz8_7
    try clear hfz9_0
    try clear hfz9_1
    try clear hfz9_2
    try clear hfz9_3
    try clear hfz9_4
    try clear hfz9_5
    try clear hfz9_6
    try clear hfz9_7
    obtain ⟨kq, x3_1, rfl, HA, HJ1, BK141, HB⟩ := hcut
    cases kq with
    | zero => exact absurd HA.out (by simp [spec_SyCopies.j0])
    | succ kj1 =>
      have H := HA.out
      clear HA
      simp only [spec_SyCopies.j0] at H
      by_cases c10 : x3_1 = 0
      · rw [if_pos c10] at H
        have c10b0 : (x3_1 == 0) = true := beq_iff_eq.mpr c10
        have c10b1 : (x3_1 != 0) = false := bne_eq_false_iff_eq.mpr c10
        clear c10
        obtain rfl := Option.some.inj H
        go_wp2
        go_ret
        exact ⟨by first | rfl | (simp [errW_none, errW_some] <;> rfl) | (simp [*, errW_none, errW_some] <;> rfl), by repeat (first | (with_reducible first | exact HB.out | apply below_alloc | apply pw_below_drewN | apply below_drew1 | refine below_set ?_ GE141.out) | exact HB.out)⟩
      · rw [if_neg c10] at H
        have c10b0 : (x3_1 == 0) = false := beq_eq_false_iff_ne.mpr c10
        have c10b1 : (x3_1 != 0) = true := bne_iff_ne.mpr c10
        have H' := Aside0.mk H
        clear H
        have hcz11_0 : wc.cell? ⟨gb141, 0, none⟩ = some (.int .i64 a0_0) := (blk_cell BK141.out 0).trans rfl
        have hcz11_1 : wc.cell? ⟨gb141, 1, none⟩ = some (.int .i64 a0_1) := (blk_cell BK141.out 1).trans rfl
        have hcz11_2 : wc.cell? ⟨gb141, 2, none⟩ = some (.slice A0_2 l0_2.length c0_2) := (blk_cell BK141.out 2).trans rfl
        have hcz11_3 : wc.cell? ⟨gb141, 3, none⟩ = some (.int .i64 a0_3) := (blk_cell BK141.out 3).trans rfl
        have hcz11_4 : wc.cell? ⟨gb141, 4, none⟩ = some (.int .i64 a0_4) := (blk_cell BK141.out 4).trans rfl
        have hcz11_5 : wc.cell? ⟨gb141, 5, none⟩ = some (.int .i64 a0_5) := (blk_cell BK141.out 5).trans rfl
        have hcz11_6 : wc.cell? ⟨gb141, 6, none⟩ = some (.string a0_6) := (blk_cell BK141.out 6).trans rfl
        have hcz11_7 : wc.cell? ⟨gb141, 7, none⟩ = some (.slice A0_7 l0_7.length c0_7) := (blk_cell BK141.out 7).trans rfl
        have hfz11_0 := blk_frozen BK141.out 0
        have hfz11_1 := blk_frozen BK141.out 1
        have hfz11_2 := blk_frozen BK141.out 2
        have hfz11_3 := blk_frozen BK141.out 3
        have hfz11_4 := blk_frozen BK141.out 4
        have hfz11_5 := blk_frozen BK141.out 5
        have hfz11_6 := blk_frozen BK141.out 6
        have hfz11_7 := blk_frozen BK141.out 7
        go_wp2
        go_loopg [4, 22] kj1 (fun kq v4 v22 w' => ∃ (x4_2 : Int) (x22_2 : Int), v4 = .int .i64 x4_2 ∧ v22 = .int .i64 x22_2 ∧ Aside0 (spec_SyCopies.l0 kq x3_1 x4_2 l0_7 (l0_7.length : Int) x22_2 = some r) ∧ Aside0 (kq ≤ kj1) ∧ Aside0 (w'.heap[gb141]? = some (.cells #[.int .i64 a0_0, .int .i64 a0_1, (.slice A0_2 l0_2.length c0_2), .int .i64 a0_3, .int .i64 a0_4, .int .i64 a0_5, .string a0_6, (.slice A0_7 l0_7.length c0_7)] 35 (0, 0))) ∧ Aside0 (Below w.heap.size w w'))
        case atStart => exact ⟨(1), (0), (by first | rfl | (simp; done) | (simp [*]; done)), (by first | rfl | (simp; done) | (simp [*]; done)), H', ⟨Nat.le_refl _⟩, ⟨by (with_reducible repeat (first | refine blk_drewN ?_ _ | refine blk_drew ?_ | refine blk_alloc ?_ _)); exact BK141.out⟩, ⟨by repeat (first | (with_reducible first | exact HB.out | apply below_alloc | apply pw_below_drewN | apply below_drew1 | refine below_set ?_ GE141.out) | exact HB.out)⟩⟩
        case round =>
          clear H'
          try clear c1
          try clear p2
          try clear c5
          try clear c5b0
          try clear c5b1
          try clear c6
          try clear c6b0
          try clear c10
          try clear c10b0
          try clear c10b1
          try clear hcz11_0
          try clear hcz11_1
          try clear hcz11_2
          try clear hcz11_3
          try clear hcz11_4
          try clear hcz11_5
          try clear hcz11_6
          try clear hcz11_7
          try clear hcz4_0
          try clear hcz4_1
          try clear hcz4_2
          try clear hcz4_3
          try clear hcz4_4
          try clear hcz4_5
          try clear hcz4_6
          try clear hcz4_7
          try clear hcz8_0
          try clear hcz8_1
          try clear hcz8_2
          try clear hcz8_3
          try clear hcz8_4
          try clear hcz8_5
          try clear hcz8_6
          try clear hcz8_7
          try clear hcz9_0
          try clear hcz9_1
          try clear hcz9_2
          try clear hcz9_3
          try clear hcz9_4
          try clear hcz9_5
          try clear hcz9_6
          try clear hcz9_7
          try clear hfz11_0
          try clear hfz11_1
          try clear hfz11_2
          try clear hfz11_3
          try clear hfz11_4
          try clear hfz11_5
          try clear hfz11_6
          try clear hfz11_7
          try clear hfz4_0
          try clear hfz4_1
          try clear hfz4_2
          try clear hfz4_3
          try clear hfz4_4
          try clear hfz4_5
          try clear hfz4_6
          try clear hfz4_7
          try clear hfz8_0
          try clear hfz8_1
          try clear hfz8_2
          try clear hfz8_3
          try clear hfz8_4
          try clear hfz8_5
          try clear hfz8_6
          try clear hfz8_7
          try clear hfz9_0
          try clear hfz9_1
          try clear hfz9_2
          try clear hfz9_3
          try clear hfz9_4
          try clear hfz9_5
          try clear hfz9_6
          try clear hfz9_7
          try clear p2
          obtain ⟨x4_2, x22_2, rfl, rfl, HA, HK2, BK141, HB⟩ := hrel
          cases gk with
          | zero => exact absurd HA.out (by simp [spec_SyCopies.l0])
          | succ k2 =>
            have H := HA.out
            clear HA
            simp only [spec_SyCopies.l0] at H
            by_cases c12 : x22_2 < (l0_7.length : Int)
            · rw [if_pos c12] at H
              have c12b0 : decide (x22_2 < (l0_7.length : Int)) = true := decide_eq_true c12
              clear c12
              by_cases c13 : 0 ≤ x22_2
              · rw [if_pos c13] at H
                have c13b0 : decide (0 ≤ x22_2) = true := decide_eq_true c13
                clear c13
                by_cases c14 : x22_2 < (l0_7.length : Int)
                · rw [if_pos c14] at H
                  have c14b0 : decide (x22_2 < (l0_7.length : Int)) = true := decide_eq_true c14
                  clear c14
                  replace H := Option.bind_eq_some_iff.mp H
                  obtain ⟨t144, A150, H⟩ := H
                  replace H : (spec_SyCopies.l0 k2 x3_1 (mx x4_2 t144) l0_7 (l0_7.length : Int) (wrap64 (x22_2 + 1))) = some r := H
                  have A15 := Aside0.mk A150
                  clear A150
                  obtain ⟨ji16, hji16⟩ : ∃ j_ : Int, (mx x4_2 t144) = j_ := ⟨_, rfl⟩
                  replace H : (spec_SyCopies.l0 k2 x3_1 ji16 l0_7 (l0_7.length : Int) (wrap64 (x22_2 + 1))) = some r := by first | (rw [hji16] at H; exact H) | (simp only [hji16] at H ⊢; exact H)
                  (try rw [hji16] at A15)
                  have hji16_ : (if x4_2 < t144 then t144 else x4_2) = ji16 := hji16
                  have H' := Aside0.mk H
                  clear H
                  have p142 : 0 ≤ (x22_2 : Int) := of_decide_eq_true (by first | (with_reducible assumption) | assumption)
                  have q142 : x22_2 < (l0_7.length : Int) := of_decide_eq_true (by first | (with_reducible assumption) | assumption)
                  obtain ⟨ad142, A142_2, c142_2, A142_7, c142_7, e142, hx142_0, hx142_1, hx142_2, hx142_3, hx142_4, hx142_5, hx142_6, hx142_7, hl142_2, hi142_2, hl142_7, hi142_7⟩ := at_T35 HR0_7.out x22_2 p142 q142
                  cases e142
                  replace hx142_0 := (HB.out.cell (World.block_lt_of_cell? w _ hx142_0)).trans hx142_0
                  replace hx142_1 := (HB.out.cell (World.block_lt_of_cell? w _ hx142_1)).trans hx142_1
                  replace hx142_2 := (HB.out.cell (World.block_lt_of_cell? w _ hx142_2)).trans hx142_2
                  replace hx142_3 := (HB.out.cell (World.block_lt_of_cell? w _ hx142_3)).trans hx142_3
                  replace hx142_4 := (HB.out.cell (World.block_lt_of_cell? w _ hx142_4)).trans hx142_4
                  replace hx142_5 := (HB.out.cell (World.block_lt_of_cell? w _ hx142_5)).trans hx142_5
                  replace hx142_6 := (HB.out.cell (World.block_lt_of_cell? w _ hx142_6)).trans hx142_6
                  replace hx142_7 := (HB.out.cell (World.block_lt_of_cell? w _ hx142_7)).trans hx142_7
                  have HR142_2 := Aside0.mk hi142_2
                  have HC142_2 := Aside0.mk hl142_2
                  clear hi142_2 hl142_2
                  have HR142_7 := Aside0.mk hi142_7
                  have HC142_7 := Aside0.mk hl142_7
                  clear hi142_7 hl142_7
                  replace p142 := eq_true p142
                  replace q142 := eq_true q142
                  go_wp2_with (first | ((with_reducible refine gate_dst (N := 6) rfl ?_); refine box_event ?hg (N := 6) ?hd (cs := #[.int .i64 0, .int .i64 0, .slice none 0 0, .int .i64 0, .int .i64 0, .int .i64 0, .string (⟨#[]⟩ : ByteArray), .slice none 0 0]) (t := 35) ?hr ?_; (case hd => rfl); (case hg => rfl); (case hr => first | (go_simp; done) | (go_simp; rfl)); intro gb143 hg w17 hbox hb; have n0_ := Aside0.mk (blk_below (g := gb141) (o := .cells #[.int .i64 a0_0, .int .i64 a0_1, .slice A0_2 l0_2.length c0_2, .int .i64 a0_3, .int .i64 a0_4, .int .i64 a0_5, .string a0_6, .slice (some ad142) l0_7.length c0_7] 35 (0, 0)) (by (with_reducible repeat (first | refine blk_drewN ?_ _ | refine blk_drew ?_ | refine blk_alloc ?_ _)); exact BK141.out) hb); have n1_ := Aside0.mk (below_step (by repeat (first | (with_reducible first | exact HB.out | apply below_alloc | apply pw_below_drewN | apply below_drew1 | refine below_set ?_ GE141.out) | exact HB.out)) hb); have n2_ := Aside0.mk (hbox); have n3_ := Aside0.mk ((by rw [hg]; exact (below_size (by repeat (first | (with_reducible first | exact HB.out | apply below_alloc | apply pw_below_drewN | apply below_drew1 | refine below_set ?_ GE141.out) | exact HB.out))) : w.heap.size ≤ gb143)); have n4_ := Aside0.mk ((by rw [hg]; exact (below_size (by repeat (first | (with_reducible first | exact HB.out | apply below_alloc | apply pw_below_drewN | apply below_drew1 | refine below_set ?_ GE141.out) | exact HB.out))) : w.heap.size ≤ gb143)); have n5_ := Aside0.mk ((by rw [hg]; exact Nat.ne_of_lt (blk_lt (g := gb141) (o := .cells #[.int .i64 a0_0, .int .i64 a0_1, .slice A0_2 l0_2.length c0_2, .int .i64 a0_3, .int .i64 a0_4, .int .i64 a0_5, .string a0_6, .slice (some ad142) l0_7.length c0_7] 35 (0, 0)) (by (with_reducible repeat (first | refine blk_drewN ?_ _ | refine blk_drew ?_ | refine blk_alloc ?_ _)); exact BK141.out)) : gb141 ≠ gb143)); have n6_ := Aside0.mk ((by rw [hg]; exact Nat.ne_of_gt (blk_lt (g := gb141) (o := .cells #[.int .i64 a0_0, .int .i64 a0_1, .slice A0_2 l0_2.length c0_2, .int .i64 a0_3, .int .i64 a0_4, .int .i64 a0_5, .string a0_6, .slice (some ad142) l0_7.length c0_7] 35 (0, 0)) (by (with_reducible repeat (first | refine blk_drewN ?_ _ | refine blk_drew ?_ | refine blk_alloc ?_ _)); exact BK141.out)) : gb143 ≠ gb141)); clear BK141; clear HB; have BK141 := n0_; have HB := n1_; have BK143 := n2_; have GW143 := n3_; have GE143 := n4_; have NB141_143 := n5_; have NB143_141 := n6_; clear n0_ n1_ n2_ n3_ n4_ n5_ n6_; clear hb hbox hg; have hnb18 := NB143_141.out; have hnc18 := NB141_143.out; have hcz19_0 : w17.cell? ⟨gb143, 0, none⟩ = some (.int .i64 0) := (blk_cell BK143.out 0).trans rfl; have hcz19_1 : w17.cell? ⟨gb143, 1, none⟩ = some (.int .i64 0) := (blk_cell BK143.out 1).trans rfl; have hcz19_2 : w17.cell? ⟨gb143, 2, none⟩ = some (.slice none 0 0) := (blk_cell BK143.out 2).trans rfl; have hcz19_3 : w17.cell? ⟨gb143, 3, none⟩ = some (.int .i64 0) := (blk_cell BK143.out 3).trans rfl; have hcz19_4 : w17.cell? ⟨gb143, 4, none⟩ = some (.int .i64 0) := (blk_cell BK143.out 4).trans rfl; have hcz19_5 : w17.cell? ⟨gb143, 5, none⟩ = some (.int .i64 0) := (blk_cell BK143.out 5).trans rfl; have hcz19_6 : w17.cell? ⟨gb143, 6, none⟩ = some (.string (⟨#[]⟩ : ByteArray)) := (blk_cell BK143.out 6).trans rfl; have hcz19_7 : w17.cell? ⟨gb143, 7, none⟩ = some (.slice none 0 0) := (blk_cell BK143.out 7).trans rfl; have hfz19_0 := blk_frozen BK143.out 0; have hfz19_1 := blk_frozen BK143.out 1; have hfz19_2 := blk_frozen BK143.out 2; have hfz19_3 := blk_frozen BK143.out 3; have hfz19_4 := blk_frozen BK143.out 4; have hfz19_5 := blk_frozen BK143.out 5; have hfz19_6 := blk_frozen BK143.out 6; have hfz19_7 := blk_frozen BK143.out 7) | ((with_reducible refine gate_callee (f := 19) rfl ?_); refine goesL_ (some 28) rfl rfl Try.func19 (by kernel_rfl) rfl #[.agg #[.int .i64 ((rd_T35 l0_7 x22_2).f0), .int .i64 ((rd_T35 l0_7 x22_2).f1), .slice A142_2 ((rd_T35 l0_7 x22_2).f2).length c142_2, .int .i64 ((rd_T35 l0_7 x22_2).f3), .int .i64 ((rd_T35 l0_7 x22_2).f4), .int .i64 ((rd_T35 l0_7 x22_2).f5), .string ((rd_T35 l0_7 x22_2).f6), .slice A142_7 ((rd_T35 l0_7 x22_2).f7).length c142_7]] rfl (by (try simp only [List.map_toArray, List.map_cons, List.map_nil]); first | done | rfl | (simp only [List.length_drop, List.length_take]; rfl)) ?_; (with_reducible refine (ih k2 (by have := HJ1.out; have := HK2.out; omega) ((rd_T35 l0_7 x22_2).f0) ((rd_T35 l0_7 x22_2).f1) _ _ ((rd_T35 l0_7 x22_2).f2) ((rd_T35 l0_7 x22_2).f3) ((rd_T35 l0_7 x22_2).f4) ((rd_T35 l0_7 x22_2).f5) ((rd_T35 l0_7 x22_2).f6) _ _ ((rd_T35 l0_7 x22_2).f7) t144 _ ?side1 ?side2 ?side3 ?side4 A15.out).mono ?_); (case side1 => exact Kd.C_below HR142_2.out (by repeat (first | (with_reducible first | exact HB.out | apply below_alloc | apply pw_below_drewN | apply below_drew1 | refine below_set ?_ GE141.out | refine below_set ?_ GE143.out) | exact HB.out))); (case side2 => exact HC142_2.out); (case side3 => exact Kd.C_below HR142_7.out (by repeat (first | (with_reducible first | exact HB.out | apply below_alloc | apply pw_below_drewN | apply below_drew1 | refine below_set ?_ GE141.out | refine below_set ?_ GE143.out) | exact HB.out))); (case side4 => exact HC142_7.out); rintro e w20 ⟨rfl, hb⟩; refine ⟨_, rfl, ?_⟩; have n0_ := Aside0.mk (blk_below (g := gb141) (o := .cells #[.int .i64 a0_0, .int .i64 a0_1, .slice A0_2 l0_2.length c0_2, .int .i64 a0_3, .int .i64 a0_4, .int .i64 a0_5, .string a0_6, .slice (some ad142) l0_7.length c0_7] 35 (0, 0)) (by (with_reducible repeat (first | refine blk_drewN ?_ _ | refine blk_drew ?_ | refine blk_alloc ?_ _)); refine blk_far ?_ NB141_143.out _; (with_reducible repeat (first | refine blk_drewN ?_ _ | refine blk_drew ?_ | refine blk_alloc ?_ _)); refine blk_far ?_ NB141_143.out _; (with_reducible repeat (first | refine blk_drewN ?_ _ | refine blk_drew ?_ | refine blk_alloc ?_ _)); refine blk_far ?_ NB141_143.out _; (with_reducible repeat (first | refine blk_drewN ?_ _ | refine blk_drew ?_ | refine blk_alloc ?_ _)); refine blk_far ?_ NB141_143.out _; (with_reducible repeat (first | refine blk_drewN ?_ _ | refine blk_drew ?_ | refine blk_alloc ?_ _)); refine blk_far ?_ NB141_143.out _; (with_reducible repeat (first | refine blk_drewN ?_ _ | refine blk_drew ?_ | refine blk_alloc ?_ _)); refine blk_far ?_ NB141_143.out _; (with_reducible repeat (first | refine blk_drewN ?_ _ | refine blk_drew ?_ | refine blk_alloc ?_ _)); refine blk_far ?_ NB141_143.out _; (with_reducible repeat (first | refine blk_drewN ?_ _ | refine blk_drew ?_ | refine blk_alloc ?_ _)); refine blk_far ?_ NB141_143.out _; (with_reducible repeat (first | refine blk_drewN ?_ _ | refine blk_drew ?_ | refine blk_alloc ?_ _)); exact BK141.out) hb); have n1_ := Aside0.mk (blk_below (g := gb143) (o := .cells #[.int .i64 ((rd_T35 l0_7 x22_2).f0), .int .i64 ((rd_T35 l0_7 x22_2).f1), .slice A142_2 ((rd_T35 l0_7 x22_2).f2).length c142_2, .int .i64 ((rd_T35 l0_7 x22_2).f3), .int .i64 ((rd_T35 l0_7 x22_2).f4), .int .i64 ((rd_T35 l0_7 x22_2).f5), .string ((rd_T35 l0_7 x22_2).f6), .slice A142_7 ((rd_T35 l0_7 x22_2).f7).length c142_7] 35 (0, 0)) (by (with_reducible repeat (first | refine blk_drewN ?_ _ | refine blk_drew ?_ | refine blk_alloc ?_ _)); refine blk_put (cs := #[.int .i64 ((rd_T35 l0_7 x22_2).f0), .int .i64 ((rd_T35 l0_7 x22_2).f1), .slice A142_2 ((rd_T35 l0_7 x22_2).f2).length c142_2, .int .i64 ((rd_T35 l0_7 x22_2).f3), .int .i64 ((rd_T35 l0_7 x22_2).f4), .int .i64 ((rd_T35 l0_7 x22_2).f5), .string ((rd_T35 l0_7 x22_2).f6), .slice none 0 0]) ?_ 7 _ rfl; (with_reducible repeat (first | refine blk_drewN ?_ _ | refine blk_drew ?_ | refine blk_alloc ?_ _)); refine blk_put (cs := #[.int .i64 ((rd_T35 l0_7 x22_2).f0), .int .i64 ((rd_T35 l0_7 x22_2).f1), .slice A142_2 ((rd_T35 l0_7 x22_2).f2).length c142_2, .int .i64 ((rd_T35 l0_7 x22_2).f3), .int .i64 ((rd_T35 l0_7 x22_2).f4), .int .i64 ((rd_T35 l0_7 x22_2).f5), .string (⟨#[]⟩ : ByteArray), .slice none 0 0]) ?_ 6 _ rfl; (with_reducible repeat (first | refine blk_drewN ?_ _ | refine blk_drew ?_ | refine blk_alloc ?_ _)); refine blk_put (cs := #[.int .i64 ((rd_T35 l0_7 x22_2).f0), .int .i64 ((rd_T35 l0_7 x22_2).f1), .slice A142_2 ((rd_T35 l0_7 x22_2).f2).length c142_2, .int .i64 ((rd_T35 l0_7 x22_2).f3), .int .i64 ((rd_T35 l0_7 x22_2).f4), .int .i64 0, .string (⟨#[]⟩ : ByteArray), .slice none 0 0]) ?_ 5 _ rfl; (with_reducible repeat (first | refine blk_drewN ?_ _ | refine blk_drew ?_ | refine blk_alloc ?_ _)); refine blk_put (cs := #[.int .i64 ((rd_T35 l0_7 x22_2).f0), .int .i64 ((rd_T35 l0_7 x22_2).f1), .slice A142_2 ((rd_T35 l0_7 x22_2).f2).length c142_2, .int .i64 ((rd_T35 l0_7 x22_2).f3), .int .i64 0, .int .i64 0, .string (⟨#[]⟩ : ByteArray), .slice none 0 0]) ?_ 4 _ rfl; (with_reducible repeat (first | refine blk_drewN ?_ _ | refine blk_drew ?_ | refine blk_alloc ?_ _)); refine blk_put (cs := #[.int .i64 ((rd_T35 l0_7 x22_2).f0), .int .i64 ((rd_T35 l0_7 x22_2).f1), .slice A142_2 ((rd_T35 l0_7 x22_2).f2).length c142_2, .int .i64 0, .int .i64 0, .int .i64 0, .string (⟨#[]⟩ : ByteArray), .slice none 0 0]) ?_ 3 _ rfl; (with_reducible repeat (first | refine blk_drewN ?_ _ | refine blk_drew ?_ | refine blk_alloc ?_ _)); refine blk_put (cs := #[.int .i64 ((rd_T35 l0_7 x22_2).f0), .int .i64 ((rd_T35 l0_7 x22_2).f1), .slice none 0 0, .int .i64 0, .int .i64 0, .int .i64 0, .string (⟨#[]⟩ : ByteArray), .slice none 0 0]) ?_ 2 _ rfl; (with_reducible repeat (first | refine blk_drewN ?_ _ | refine blk_drew ?_ | refine blk_alloc ?_ _)); refine blk_put (cs := #[.int .i64 ((rd_T35 l0_7 x22_2).f0), .int .i64 0, .slice none 0 0, .int .i64 0, .int .i64 0, .int .i64 0, .string (⟨#[]⟩ : ByteArray), .slice none 0 0]) ?_ 1 _ rfl; (with_reducible repeat (first | refine blk_drewN ?_ _ | refine blk_drew ?_ | refine blk_alloc ?_ _)); refine blk_put (cs := #[.int .i64 0, .int .i64 0, .slice none 0 0, .int .i64 0, .int .i64 0, .int .i64 0, .string (⟨#[]⟩ : ByteArray), .slice none 0 0]) ?_ 0 _ rfl; (with_reducible repeat (first | refine blk_drewN ?_ _ | refine blk_drew ?_ | refine blk_alloc ?_ _)); exact BK143.out) hb); have n2_ := Aside0.mk (below_step (by repeat (first | (with_reducible first | exact HB.out | apply below_alloc | apply pw_below_drewN | apply below_drew1 | refine below_set ?_ GE141.out | refine below_set ?_ GE143.out) | exact HB.out)) hb); clear BK141; clear BK143; clear HB; have BK141 := n0_; have BK143 := n1_; have HB := n2_; clear n0_ n1_ n2_; (try clear hb); (try clear hb2); (try clear hk); (try clear hi)))
                  go_roundg k2
                  case measure => have := HJ1.out; have := HK2.out; omega
                  case rel => exact ⟨(ji16), (wrap64 (x22_2 + 1)), (by first | rfl | (simp; done) | (simp only [← hji16] <;> (first | rfl | simp)) | (simp [*]; done)), (by first | rfl | (simp; done) | (simp [*]; done)), H', ⟨by have := HJ1.out; have := HK2.out; omega⟩, ⟨by (with_reducible repeat (first | refine blk_drewN ?_ _ | refine blk_drew ?_ | refine blk_alloc ?_ _)); exact BK141.out⟩, ⟨by repeat (first | (with_reducible first | exact HB.out | apply below_alloc | apply pw_below_drewN | apply below_drew1 | refine below_set ?_ GE141.out | refine below_set ?_ GE143.out) | exact HB.out)⟩⟩
                · rw [if_neg c14] at H
                  exact absurd H (by simp)
              · rw [if_neg c13] at H
                exact absurd H (by simp)
            · rw [if_neg c12] at H
              have c12b0 : decide (x22_2 < (l0_7.length : Int)) = false := decide_eq_false c12
              clear c12
              obtain ⟨ji21, hji21⟩ : ∃ j_ : Int, (mn (wrap64 (x3_1 * x4_2)) 1001) = j_ := ⟨_, rfl⟩
              replace H : (some ji21) = some r := by first | (rw [hji21] at H; exact H) | (simp only [hji21] at H ⊢; exact H)
              have hji21_ : (if 1001 < (wrap64 (x3_1 * x4_2)) then 1001 else (wrap64 (x3_1 * x4_2))) = ji21 := hji21
              obtain rfl := Option.some.inj H
              go_wp2
              go_ret
              exact ⟨by first | rfl | (simp [errW_none, errW_some] <;> rfl) | (simp only [← hji21]; first | rfl | (simp [errW_none, errW_some] <;> rfl)) | (simp [*, errW_none, errW_some] <;> rfl), by repeat (first | (with_reducible first | exact HB.out | apply below_alloc | apply pw_below_drewN | apply below_drew1 | refine below_set ?_ GE141.out) | exact HB.out)⟩

-- NOT PRINTED: function 7 (laws_FnSyRepeatValid)

end Go.Proofs.Ytholpemmakdglaa.PFnSyRepeatValid
