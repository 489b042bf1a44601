-- PRINTED BY print.sh 35421559b90ae4d0a3588c463048766b98c2df88dd9212a6774a882060cdf62d: not written by this session
import Derived.Test.YtcncclglmgdinaaDoorPFnPgStepx0
import Derived.Test.YtcncclglmgdinaaDoorPFnPgStepx1
namespace Go.Proofs.YtcncclglmgdinaaDoor.PFnPgStep
open Go.RowKit Go.Proofs.YtcncclglmgdinaaDoorW.PrintWords Go.Proofs.YtcncclglmgdinaaDoorW.PrintLast Go.Proofs.YtcncclglmgdinaaDoorW.PrintMore
attribute [local go_sem] max2_int min2_int max_two min_two max_three min_three max_four min_four   -- for this text's walks alone
set_option linter.unusedVariables false
set_option linter.unusedSimpArgs false

/-! ### spec_progInst: function 36 -/
def spec_progInst.j0 : Nat → Bool → List (S55) → Int → Int → Int → Int → Int → List Int → Option (Bool)
 | 0, _, _, _, _, _, _, _, _ => none
 | k + 1, x12, x120000, x120001, x120002, x121000, x121001, x121002, x121003 => if x12 = true then (some true) else ((spec_progTo.f x120000 x120001 x120002 x121001).bind fun t121 => (if t121 = true then (if x121000 = 0 then ((spec_progTo.f x120000 x120001 x120002 x121002).bind fun t122 => (some t122)) else (if x121000 = 2 then (if 2 ≤ x121002 then (some (decide (x121002 < x120002))) else (some false)) else (if x121000 = 3 then (if 0 < x121002 then (some (decide (x121002 < 64))) else (some false)) else (if x121000 = 6 then (some true) else (if x121000 = 9 then (if (x121003.length : Int) = 0 then (some true) else ((spec_progSame.f k x121003 (([0, 1114111] : List Int))).bind fun t126 => (some t126))) else (if x121000 = 10 then (if (x121003.length : Int) = 0 then (some true) else ((spec_progSame.f k x121003 (([0, 9, 11, 1114111] : List Int))).bind fun t130 => (some t130))) else (if x121000 = 8 then (if (x121003.length : Int) = 1 then ((spec_progRunes.f k x121000 x121001 x121002 x121003).bind fun t131 => (some t131)) else (if (x121003.length : Int) = 2 then (if 0 < (x121003.length : Int) then (if 1 < (x121003.length : Int) then (if (rd x121003 0) = (rd x121003 1) then ((spec_progRunes.f k x121000 x121001 x121002 x121003).bind fun t134 => (some t134)) else (some false)) else (none)) else (none)) else (some false))) else (if x121000 = 7 then (if x121002 = 1 then (if (x121003.length : Int) = 1 then ((spec_progRunes.f k x121000 x121001 x121002 x121003).bind fun t135 => (if t135 = true then (some true) else (if x121002 = 0 then ((spec_reClass.f k x121003).bind fun t136 => (some t136)) else (some false)))) else (if x121002 = 0 then ((spec_reClass.f k x121003).bind fun t137 => (some t137)) else (some false))) else (if x121002 = 0 then ((spec_reClass.f k x121003).bind fun t138 => (some t138)) else (some false))) else (some false))))))))) else (some false)))
def spec_progInst.f (k : Nat) (l0_0 : List (S55)) (a0_1 : Int) (a0_2 : Int) (a1_0 : Int) (a1_1 : Int) (a1_2 : Int) (l1_3 : List Int) : Option (Bool) := if a1_0 = 4 then (spec_progInst.j0 k true l0_0 a0_1 a0_2 a1_0 a1_1 a1_2 l1_3) else (spec_progInst.j0 k (a1_0 == 5) l0_0 a0_1 a0_2 a1_0 a1_1 a1_2 l1_3)
theorem spec_progInst.mono_l : ∀ k, (∀ y0 y1 y2 y3 y4 y5 y6 y7, LeO (spec_progInst.j0 k y0 y1 y2 y3 y4 y5 y6 y7) (spec_progInst.j0 (k + 1) y0 y1 y2 y3 y4 y5 y6 y7))
 | 0 => fun _ _ _ _ _ _ _ _ r h => by simp [spec_progInst.j0] at h
 | k + 1 => by
  have ih0 := spec_progInst.mono_l k
  ·intro y0 y1 y2 y3 y4 y5 y6 y7
   unfold spec_progInst.j0
   repeat' first
   | (with_reducible exact ih0 _ _ _ _ _ _ _ _)
   | (with_reducible exact spec_progRunes.mono _ _ _ _ _)
   | (with_reducible exact spec_progSame.mono _ _ _)
   | (with_reducible exact spec_reClass.mono _ _)
   | (with_reducible exact LeO.refl _)
   | (with_reducible exact LeO.none _)
   | (with_reducible refine LeO.ite ?_ ?_)
   | (with_reducible refine LeO.bind ?_ (fun _ => ?_))
   | exact ih0 _ _ _ _ _ _ _ _
   | exact spec_progRunes.mono _ _ _ _ _
   | exact spec_progSame.mono _ _ _
   | exact spec_reClass.mono _ _
   | exact LeO.none _
   | refine LeO.ite ?_ ?_
   | refine LeO.bind ?_ (fun _ => ?_)
theorem spec_progInst.mono : ∀ a0 a1 a2 a3 a4 a5 a6 k, LeO (spec_progInst.f k a0 a1 a2 a3 a4 a5 a6) (spec_progInst.f (k + 1) a0 a1 a2 a3 a4 a5 a6) := by
 intro a0 a1 a2 a3 a4 a5 a6 k
 have ih0 := spec_progInst.mono_l k
 unfold spec_progInst.f
 repeat' first
   | (with_reducible exact ih0 _ _ _ _ _ _ _ _)
   | (with_reducible exact spec_progRunes.mono _ _ _ _ _)
   | (with_reducible exact spec_progSame.mono _ _ _)
   | (with_reducible exact spec_reClass.mono _ _)
   | (with_reducible exact LeO.refl _)
   | (with_reducible exact LeO.none _)
   | (with_reducible refine LeO.ite ?_ ?_)
   | (with_reducible refine LeO.bind ?_ (fun _ => ?_))
   | exact ih0 _ _ _ _ _ _ _ _
   | exact spec_progRunes.mono _ _ _ _ _
   | exact spec_progSame.mono _ _ _
   | exact spec_reClass.mono _ _
   | exact LeO.none _
   | refine LeO.ite ?_ ?_
   | refine LeO.bind ?_ (fun _ => ?_)
def spec_progInst.T19 : Bool × List (List Nat × List Nat) := (true, [([], []), ([0], [0]), ([1], [1]), ([2], [2]), ([3], [3]), ([4], [4]), ([5, 4], [4, 5]), ([6, 4], [4, 6]), ([7, 4], [4, 7]), ([8, 4, 4], [4, 8]), ([9], [9]), ([10, 9], [9, 10]), ([11, 9], [9, 11]), ([12, 9], [9, 12]), ([9], [9]), ([14, 9], [9, 14]), ([15, 9], [9, 15]), ([16, 9], [9, 16]), ([13, 17, 9], [9, 13, 17]), ([9, 18, 4], [4, 9, 18]), ([4, 19], [4, 19]), ([20, 9], [20]), ([21], [21]), ([22, 21, 21], [21, 22]), ([21, 23], [21, 23]), ([24, 23, 0, 1, 2, 3, 4, 5, 6, 7, 8, 9, 10, 11, 12, 13, 14, 15, 16, 17, 18, 19, 20, 21, 22, 23, 24], [24])])
def spec_progInst.B19 : List Nat := [0, 1, 3, 7, 15, 31, 63, 127, 255, 511, 1023, 2047, 4095, 8191, 1023, 17407, 50175, 115711, 262143, 524287, 1048575, 2097151, 4194303, 8388607, 16777215, 33554431]
theorem spec_progInst.tab19 : rtab .any (opsOf Tryd.f36 19) = spec_progInst.T19 := by kernel_rfl
theorem spec_progInst.bits19 : waitsOk spec_progInst.T19.2 spec_progInst.B19 = true := by kernel_rfl
set_option maxHeartbeats 8000000 in
set_option maxRecDepth 100000 in
theorem spec_progInst.calls (k : Nat) (A0_0 : Option Addr) (c0_0 : Nat) (l0_0 : List (S55)) (a0_1 : Int) (a0_2 : Int) (a1_0 : Int) (a1_1 : Int) (a1_2 : Int) (A1_3 : Option Addr) (c1_3 : Nat) (l1_3 : List Int) (r : Bool) (w : World) (hr0_0 : Kd.C k55 w A0_0 l0_0.length l0_0) (hc0_0 : l0_0.length ≤ c0_0) (hr1_3 : Kd.C (Kd.int .i32) w A1_3 l1_3.length l1_3) (hc1_3 : l1_3.length ≤ c1_3) (h : spec_progInst.f k l0_0 a0_1 a0_2 a1_0 a1_1 a1_2 l1_3 = some r) :
  Calls Tryd.prog 36 #[.agg #[.slice A0_0 l0_0.length c0_0, .int .i64 a0_1, .int .i64 a0_2], .agg #[.int .i64 a1_0, .int .i64 a1_1, .int .i64 a1_2, .slice A1_3 l1_3.length c1_3]] w fun e w' => e = .returned (.bool r) ∧ Below w.heap.size w w' := by
 have hu24 := Tryd.underlying24
 have hu55 := Tryd.underlying55
 have HR0_0 := Aside0.mk hr0_0
 have HC0_0 := Aside0.mk hc0_0
 clear hr0_0 hc0_0
 have HR1_3 := Aside0.mk hr1_3
 have HC1_3 := Aside0.mk hc1_3
 clear hr1_3 hc1_3
 have HB := Aside0.mk (Below.refl w.heap.size w)
 have H : (if a1_0 = 4 then (spec_progInst.j0 k true l0_0 a0_1 a0_2 a1_0 a1_1 a1_2 l1_3) else (spec_progInst.j0 k (a1_0 == 5) l0_0 a0_1 a0_2 a1_0 a1_1 a1_2 l1_3)) = some r := h
 clear h
 have HC3 := Aside0.mk H
 clear H
 go_enter Tryd.func36, Tryd.ntmps36
 go_upto_region 1 with (first | ((with_reducible refine gate_dst (N := 2) rfl ?_); (try (refine gate_guard (by rfl) ?_; dsimp only)); refine box_event ?hg (N := 2) ?hd (cs := #[.slice A0_0 l0_0.length c0_0, .int .i64 a0_1, .int .i64 a0_2]) (t := 24) ?hr ?_; (case hd => rfl); (case hg => rfl); (case hr => first | (go_simp; done) | (go_simp; rfl)); intro gb119 hg w4 hbox hb; have n0_ := Aside0.mk (below_step (by repeat (first | (with_reducible first | exact HB.out | apply below_alloc | apply pw_below_drewN | apply below_drew1) | exact HB.out)) hb); have n1_ := Aside0.mk (hbox); have n2_ := Aside0.mk ((by rw [hg]; exact (below_size (by repeat (first | (with_reducible first | exact HB.out | apply below_alloc | apply pw_below_drewN | apply below_drew1) | exact HB.out))) : w.heap.size ≤ gb119)); have n3_ := Aside0.mk ((by rw [hg]; exact (below_size (by repeat (first | (with_reducible first | exact HB.out | apply below_alloc | apply pw_below_drewN | apply below_drew1) | exact HB.out))) : w.heap.size ≤ gb119)); clear HB; have HB := n0_; have BK119 := n1_; have GW119 := n2_; have GE119 := n3_; clear n0_ n1_ n2_ n3_; clear hb hbox hg) | ((with_reducible refine gate_dst (N := 3) rfl ?_); (try (refine gate_guard (by rfl) ?_; dsimp only)); refine box_event ?hg (N := 3) ?hd (cs := #[.int .i64 a1_0, .int .i64 a1_1, .int .i64 a1_2, .slice A1_3 l1_3.length c1_3]) (t := 55) ?hr ?_; (case hd => rfl); (case hg => rfl); (case hr => first | (go_simp; done) | (go_simp; rfl)); intro gb120 hg w5 hbox hb; have n0_ := Aside0.mk (blk_below (g := gb119) (o := .cells #[.slice A0_0 l0_0.length c0_0, .int .i64 a0_1, .int .i64 a0_2] 24 (0, 0)) (by (with_reducible repeat (first | refine blk_drewN ?_ _ | refine blk_drew ?_ | refine blk_alloc ?_ _)); exact BK119.out) hb); have n1_ := Aside0.mk (below_step (by repeat (first | (with_reducible first | exact HB.out | apply below_alloc | apply pw_below_drewN | apply below_drew1 | refine below_set ?_ GE119.out) | exact HB.out)) hb); have n2_ := Aside0.mk (hbox); have n3_ := Aside0.mk ((by rw [hg]; exact (below_size (by repeat (first | (with_reducible first | exact HB.out | apply below_alloc | apply pw_below_drewN | apply below_drew1 | refine below_set ?_ GE119.out) | exact HB.out))) : w.heap.size ≤ gb120)); have n4_ := Aside0.mk ((by rw [hg]; exact (below_size (by repeat (first | (with_reducible first | exact HB.out | apply below_alloc | apply pw_below_drewN | apply below_drew1 | refine below_set ?_ GE119.out) | exact HB.out))) : w.heap.size ≤ gb120)); have n5_ := Aside0.mk ((by rw [hg]; exact Nat.ne_of_lt (blk_lt (g := gb119) (o := .cells #[.slice A0_0 l0_0.length c0_0, .int .i64 a0_1, .int .i64 a0_2] 24 (0, 0)) (by (with_reducible repeat (first | refine blk_drewN ?_ _ | refine blk_drew ?_ | refine blk_alloc ?_ _)); exact BK119.out)) : gb119 ≠ gb120)); have n6_ := Aside0.mk ((by rw [hg]; exact Nat.ne_of_gt (blk_lt (g := gb119) (o := .cells #[.slice A0_0 l0_0.length c0_0, .int .i64 a0_1, .int .i64 a0_2] 24 (0, 0)) (by (with_reducible repeat (first | refine blk_drewN ?_ _ | refine blk_drew ?_ | refine blk_alloc ?_ _)); exact BK119.out)) : gb120 ≠ gb119)); clear BK119; clear HB; have BK119 := n0_; have HB := n1_; have BK120 := n2_; have GW120 := n3_; have GE120 := n4_; have NB119_120 := n5_; have NB120_119 := n6_; clear n0_ n1_ n2_ n3_ n4_ n5_ n6_; clear hb hbox hg))
 (try simp only [Act.put, List.setIfInBounds_toArray, List.set_cons_zero, List.set_cons_succ])
 go_cut [12] (fun v12 wc => ∃ (kq : Nat) (x12_2 : Bool), v12 = .bool x12_2 ∧ Aside0 (spec_progInst.j0 kq x12_2 l0_0 a0_1 a0_2 a1_0 a1_1 a1_2 l1_3 = some r) ∧ Aside0 (kq ≤ k) ∧ Aside0 (wc.heap[gb119]? = some (.cells #[(.slice A0_0 l0_0.length c0_0), .int .i64 a0_1, .int .i64 a0_2] 24 (0, 0))) ∧ Aside0 (wc.heap[gb120]? = some (.cells #[.int .i64 a1_0, .int .i64 a1_1, .int .i64 a1_2, (.slice A1_3 l1_3.length c1_3)] 55 (0, 0))) ∧ Aside0 (Below w.heap.size w wc))
 case first =>
  have H := HC3.out
  clear HC3
  by_cases c6 : a1_0 = 4
  ·rw [if_pos c6] at H
   have c6b0 : (a1_0 == 4) = true := beq_iff_eq.mpr c6
   have c6b1 : (a1_0 != 4) = false := bne_eq_false_iff_eq.mpr c6
   clear c6
   (first | rw [c6b0] | (simp only [i64_w, i32_w]; rw [c6b0]) | skip)
   have H' := Aside0.mk H
   clear H
   have hnb7 := NB120_119.out
   have hnc7 := NB119_120.out
   have hcz8_0 : w5.cell? ⟨gb120, 0, none⟩ = some (.int .i64 a1_0) := (blk_cell BK120.out 0).trans rfl
   have hcz8_1 : w5.cell? ⟨gb120, 1, none⟩ = some (.int .i64 a1_1) := (blk_cell BK120.out 1).trans rfl
   have hcz8_2 : w5.cell? ⟨gb120, 2, none⟩ = some (.int .i64 a1_2) := (blk_cell BK120.out 2).trans rfl
   have hcz8_3 : w5.cell? ⟨gb120, 3, none⟩ = some (.slice A1_3 l1_3.length c1_3) := (blk_cell BK120.out 3).trans rfl
   have hfz8_0 := blk_frozen BK120.out 0
   have hfz8_1 := blk_frozen BK120.out 1
   have hfz8_2 := blk_frozen BK120.out 2
   have hfz8_3 := blk_frozen BK120.out 3
   go_wp2
   go_meet
   case rel => exact ⟨_, (true), (by first | rfl | (simp; done) | (simp [*]; done)), H', ⟨by first | omega | exact Nat.le_refl _⟩, ⟨by (with_reducible repeat (first | refine blk_drewN ?_ _ | refine blk_drew ?_ | refine blk_alloc ?_ _)); exact BK119.out⟩, ⟨by (with_reducible repeat (first | refine blk_drewN ?_ _ | refine blk_drew ?_ | refine blk_alloc ?_ _)); exact BK120.out⟩, ⟨by repeat (first | (with_reducible first | exact HB.out | apply below_alloc | apply pw_below_drewN | apply below_drew1 | refine below_set ?_ GE119.out | refine below_set ?_ GE120.out) | exact HB.out)⟩⟩
  ·rw [if_neg c6] at H
   have c6b0 : (a1_0 == 4) = false := beq_eq_false_iff_ne.mpr c6
   have c6b1 : (a1_0 != 4) = true := bne_iff_ne.mpr c6
   (first | rw [c6b0] | (simp only [i64_w, i32_w]; rw [c6b0]) | skip)
   have H' := Aside0.mk H
   clear H
   have hnb9 := NB120_119.out
   have hnc9 := NB119_120.out
   have hcz10_0 : w5.cell? ⟨gb120, 0, none⟩ = some (.int .i64 a1_0) := (blk_cell BK120.out 0).trans rfl
   have hcz10_1 : w5.cell? ⟨gb120, 1, none⟩ = some (.int .i64 a1_1) := (blk_cell BK120.out 1).trans rfl
   have hcz10_2 : w5.cell? ⟨gb120, 2, none⟩ = some (.int .i64 a1_2) := (blk_cell BK120.out 2).trans rfl
   have hcz10_3 : w5.cell? ⟨gb120, 3, none⟩ = some (.slice A1_3 l1_3.length c1_3) := (blk_cell BK120.out 3).trans rfl
   have hfz10_0 := blk_frozen BK120.out 0
   have hfz10_1 := blk_frozen BK120.out 1
   have hfz10_2 := blk_frozen BK120.out 2
   have hfz10_3 := blk_frozen BK120.out 3
   go_wp2
   go_meet
   case rel => exact ⟨_, ((a1_0 == 5)), (by first | rfl | (simp; done) | (simp [*]; done)), H', ⟨by first | omega | exact Nat.le_refl _⟩, ⟨by (with_reducible repeat (first | refine blk_drewN ?_ _ | refine blk_drew ?_ | refine blk_alloc ?_ _)); exact BK119.out⟩, ⟨by (with_reducible repeat (first | refine blk_drewN ?_ _ | refine blk_drew ?_ | refine blk_alloc ?_ _)); exact BK120.out⟩, ⟨by repeat (first | (with_reducible first | exact HB.out | apply below_alloc | apply pw_below_drewN | apply below_drew1 | refine below_set ?_ GE119.out | refine below_set ?_ GE120.out) | exact HB.out)⟩⟩
 case rest =>
  clear HC3
  try clear c1
  try clear p2
  try clear c3
  try clear c6
  try clear c6b0
  try clear c6b1
  try clear c7
  try clear c9
  try clear hcz10_0
  try clear hcz10_1
  try clear hcz10_2
  try clear hcz10_3
  try clear hcz8_0
  try clear hcz8_1
  try clear hcz8_2
  try clear hcz8_3
  try clear hfz10_0
  try clear hfz10_1
  try clear hfz10_2
  try clear hfz10_3
  try clear hfz8_0
  try clear hfz8_1
  try clear hfz8_2
  try clear hfz8_3
  obtain ⟨kq, x12_2, rfl, HA, HJ2, BK119, BK120, HB⟩ := hcut
  cases kq with
  | zero => exact absurd HA.out (by simp [spec_progInst.j0])
  | succ kj2 =>
   have H := HA.out
   clear HA
   simp only [spec_progInst.j0] at H
   by_cases c11 : x12_2 = true
   ·subst c11
    have H1 : (some true) = some r := by rw [if_pos rfl] at H; exact H
    clear H
    have H := H1
    clear H1
    obtain rfl := Option.some.inj H
    go_wp2
    go_ret
    exact ⟨by first | rfl | (simp [errW_none, errW_some] <;> rfl) | (simp [*, errW_none, errW_some] <;> rfl), by repeat (first | (with_reducible first | exact HB.out | apply below_alloc | apply pw_below_drewN | apply below_drew1 | refine below_set ?_ GE119.out | refine below_set ?_ GE120.out) | exact HB.out)⟩
   ·replace c11 := Bool.eq_false_iff.mpr c11
    subst c11
    have H1 : ((spec_progTo.f l0_0 a0_1 a0_2 a1_1).bind fun t121 => (if t121 = true then (if a1_0 = 0 then ((spec_progTo.f l0_0 a0_1 a0_2 a1_2).bind fun t122 => (some t122)) else (if a1_0 = 2 then (if 2 ≤ a1_2 then (some (decide (a1_2 < a0_2))) else (some false)) else (if a1_0 = 3 then (if 0 < a1_2 then (some (decide (a1_2 < 64))) else (some false)) else (if a1_0 = 6 then (some true) else (if a1_0 = 9 then (if (l1_3.length : Int) = 0 then (some true) else ((spec_progSame.f kj2 l1_3 (([0, 1114111] : List Int))).bind fun t126 => (some t126))) else (if a1_0 = 10 then (if (l1_3.length : Int) = 0 then (some true) else ((spec_progSame.f kj2 l1_3 (([0, 9, 11, 1114111] : List Int))).bind fun t130 => (some t130))) else (if a1_0 = 8 then (if (l1_3.length : Int) = 1 then ((spec_progRunes.f kj2 a1_0 a1_1 a1_2 l1_3).bind fun t131 => (some t131)) else (if (l1_3.length : Int) = 2 then (if 0 < (l1_3.length : Int) then (if 1 < (l1_3.length : Int) then (if (rd l1_3 0) = (rd l1_3 1) then ((spec_progRunes.f kj2 a1_0 a1_1 a1_2 l1_3).bind fun t134 => (some t134)) else (some false)) else (none)) else (none)) else (some false))) else (if a1_0 = 7 then (if a1_2 = 1 then (if (l1_3.length : Int) = 1 then ((spec_progRunes.f kj2 a1_0 a1_1 a1_2 l1_3).bind fun t135 => (if t135 = true then (some true) else (if a1_2 = 0 then ((spec_reClass.f kj2 l1_3).bind fun t136 => (some t136)) else (some false)))) else (if a1_2 = 0 then ((spec_reClass.f kj2 l1_3).bind fun t137 => (some t137)) else (some false))) else (if a1_2 = 0 then ((spec_reClass.f kj2 l1_3).bind fun t138 => (some t138)) else (some false))) else (some false))))))))) else (some false))) = some r := by rw [if_neg (show ¬ (false = true) by decide)] at H; exact H
    clear H
    have H := H1
    clear H1
    replace H := Option.bind_eq_some_iff.mp H
    obtain ⟨t121, A120, H⟩ := H
    replace H : (if t121 = true then (if a1_0 = 0 then ((spec_progTo.f l0_0 a0_1 a0_2 a1_2).bind fun t122 => (some t122)) else (if a1_0 = 2 then (if 2 ≤ a1_2 then (some (decide (a1_2 < a0_2))) else (some false)) else (if a1_0 = 3 then (if 0 < a1_2 then (some (decide (a1_2 < 64))) else (some false)) else (if a1_0 = 6 then (some true) else (if a1_0 = 9 then (if (l1_3.length : Int) = 0 then (some true) else ((spec_progSame.f kj2 l1_3 (([0, 1114111] : List Int))).bind fun t126 => (some t126))) else (if a1_0 = 10 then (if (l1_3.length : Int) = 0 then (some true) else ((spec_progSame.f kj2 l1_3 (([0, 9, 11, 1114111] : List Int))).bind fun t130 => (some t130))) else (if a1_0 = 8 then (if (l1_3.length : Int) = 1 then ((spec_progRunes.f kj2 a1_0 a1_1 a1_2 l1_3).bind fun t131 => (some t131)) else (if (l1_3.length : Int) = 2 then (if 0 < (l1_3.length : Int) then (if 1 < (l1_3.length : Int) then (if (rd l1_3 0) = (rd l1_3 1) then ((spec_progRunes.f kj2 a1_0 a1_1 a1_2 l1_3).bind fun t134 => (some t134)) else (some false)) else (none)) else (none)) else (some false))) else (if a1_0 = 7 then (if a1_2 = 1 then (if (l1_3.length : Int) = 1 then ((spec_progRunes.f kj2 a1_0 a1_1 a1_2 l1_3).bind fun t135 => (if t135 = true then (some true) else (if a1_2 = 0 then ((spec_reClass.f kj2 l1_3).bind fun t136 => (some t136)) else (some false)))) else (if a1_2 = 0 then ((spec_reClass.f kj2 l1_3).bind fun t137 => (some t137)) else (some false))) else (if a1_2 = 0 then ((spec_reClass.f kj2 l1_3).bind fun t138 => (some t138)) else (some false))) else (some false))))))))) else (some false)) = some r := H
    have A12 := Aside0.mk A120
    clear A120
    by_cases c13 : t121 = true
    ·subst c13
     have H1 : (if a1_0 = 0 then ((spec_progTo.f l0_0 a0_1 a0_2 a1_2).bind fun t122 => (some t122)) else (if a1_0 = 2 then (if 2 ≤ a1_2 then (some (decide (a1_2 < a0_2))) else (some false)) else (if a1_0 = 3 then (if 0 < a1_2 then (some (decide (a1_2 < 64))) else (some false)) else (if a1_0 = 6 then (some true) else (if a1_0 = 9 then (if (l1_3.length : Int) = 0 then (some true) else ((spec_progSame.f kj2 l1_3 (([0, 1114111] : List Int))).bind fun t126 => (some t126))) else (if a1_0 = 10 then (if (l1_3.length : Int) = 0 then (some true) else ((spec_progSame.f kj2 l1_3 (([0, 9, 11, 1114111] : List Int))).bind fun t130 => (some t130))) else (if a1_0 = 8 then (if (l1_3.length : Int) = 1 then ((spec_progRunes.f kj2 a1_0 a1_1 a1_2 l1_3).bind fun t131 => (some t131)) else (if (l1_3.length : Int) = 2 then (if 0 < (l1_3.length : Int) then (if 1 < (l1_3.length : Int) then (if (rd l1_3 0) = (rd l1_3 1) then ((spec_progRunes.f kj2 a1_0 a1_1 a1_2 l1_3).bind fun t134 => (some t134)) else (some false)) else (none)) else (none)) else (some false))) else (if a1_0 = 7 then (if a1_2 = 1 then (if (l1_3.length : Int) = 1 then ((spec_progRunes.f kj2 a1_0 a1_1 a1_2 l1_3).bind fun t135 => (if t135 = true then (some true) else (if a1_2 = 0 then ((spec_reClass.f kj2 l1_3).bind fun t136 => (some t136)) else (some false)))) else (if a1_2 = 0 then ((spec_reClass.f kj2 l1_3).bind fun t137 => (some t137)) else (some false))) else (if a1_2 = 0 then ((spec_reClass.f kj2 l1_3).bind fun t138 => (some t138)) else (some false))) else (some false))))))))) = some r := by rw [if_pos rfl] at H; exact H
     clear H
     have H := H1
     clear H1
     by_cases c14 : a1_0 = 0
     ·rw [if_pos c14] at H
      have c14b0 : (a1_0 == 0) = true := beq_iff_eq.mpr c14
      have c14b1 : (a1_0 != 0) = false := bne_eq_false_iff_eq.mpr c14
      clear c14
      replace H := Option.bind_eq_some_iff.mp H
      obtain ⟨t122, A150, H⟩ := H
      replace H : (some t122) = some r := H
      have A15 := Aside0.mk A150
      clear A150
      obtain rfl := Option.some.inj H
      have hnb16 := NB119_120.out
      have hnc16 := NB120_119.out
      have hcz17_0 : wc.cell? ⟨gb119, 0, none⟩ = some (.slice A0_0 l0_0.length c0_0) := (blk_cell BK119.out 0).trans rfl
      have hcz17_1 : wc.cell? ⟨gb119, 1, none⟩ = some (.int .i64 a0_1) := (blk_cell BK119.out 1).trans rfl
      have hcz17_2 : wc.cell? ⟨gb119, 2, none⟩ = some (.int .i64 a0_2) := (blk_cell BK119.out 2).trans rfl
      have hfz17_0 := blk_frozen BK119.out 0
      have hfz17_1 := blk_frozen BK119.out 1
      have hfz17_2 := blk_frozen BK119.out 2
      have hcz18_0 : wc.cell? ⟨gb120, 0, none⟩ = some (.int .i64 a1_0) := (blk_cell BK120.out 0).trans rfl
      have hcz18_1 : wc.cell? ⟨gb120, 1, none⟩ = some (.int .i64 a1_1) := (blk_cell BK120.out 1).trans rfl
      have hcz18_2 : wc.cell? ⟨gb120, 2, none⟩ = some (.int .i64 a1_2) := (blk_cell BK120.out 2).trans rfl
      have hcz18_3 : wc.cell? ⟨gb120, 3, none⟩ = some (.slice A1_3 l1_3.length c1_3) := (blk_cell BK120.out 3).trans rfl
      have hfz18_0 := blk_frozen BK120.out 0
      have hfz18_1 := blk_frozen BK120.out 1
      have hfz18_2 := blk_frozen BK120.out 2
      have hfz18_3 := blk_frozen BK120.out 3
      go_wp2_with (first | ((with_reducible refine gate_callee (f := 35) rfl ?_); refine goesL_ (some 16) rfl rfl Tryd.func35 (by kernel_rfl) rfl #[.agg #[.slice A0_0 l0_0.length c0_0, .int .i64 a0_1, .int .i64 a0_2], .int .i64 a1_1] rfl (by (try simp only [List.map_toArray, List.map_cons, List.map_nil]); first | done | rfl | (simp only [List.length_drop, List.length_take]; rfl)) ?_; (with_reducible refine (spec_progTo.calls _ _ l0_0 a0_1 a0_2 a1_1 true _ ?side1 ?side2 A12.out).mono ?_); (case side1 => repeat (first | exact (Kd.C_below HR0_0.out HB.out) | (with_reducible refine Kd.C_alloc ?_ _) | (with_reducible refine Kd.C_drewN ?_ _) | (with_reducible refine Kd.C_drew ?_))); (case side2 => exact HC0_0.out); rintro e w19 ⟨rfl, hb⟩; refine ⟨_, rfl, ?_⟩; have n0_ := Aside0.mk (blk_below (g := gb119) (o := .cells #[.slice A0_0 l0_0.length c0_0, .int .i64 a0_1, .int .i64 a0_2] 24 (0, 0)) (by (with_reducible repeat (first | refine blk_drewN ?_ _ | refine blk_drew ?_ | refine blk_alloc ?_ _)); exact BK119.out) hb); have n1_ := Aside0.mk (blk_below (g := gb120) (o := .cells #[.int .i64 a1_0, .int .i64 a1_1, .int .i64 a1_2, .slice A1_3 l1_3.length c1_3] 55 (0, 0)) (by (with_reducible repeat (first | refine blk_drewN ?_ _ | refine blk_drew ?_ | refine blk_alloc ?_ _)); exact BK120.out) hb); have n2_ := Aside0.mk (below_step (by repeat (first | (with_reducible first | exact HB.out | apply below_alloc | apply pw_below_drewN | apply below_drew1 | refine below_set ?_ GE119.out | refine below_set ?_ GE120.out) | exact HB.out)) hb); clear BK119; clear BK120; clear HB; have BK119 := n0_; have BK120 := n1_; have HB := n2_; clear n0_ n1_ n2_; (try clear hb); (try clear hb2); (try clear hk); (try clear hi); have hcz20_0 : w19.cell? ⟨gb120, 0, none⟩ = some (.int .i64 a1_0) := (blk_cell BK120.out 0).trans rfl; have hcz20_1 : w19.cell? ⟨gb120, 1, none⟩ = some (.int .i64 a1_1) := (blk_cell BK120.out 1).trans rfl; have hcz20_2 : w19.cell? ⟨gb120, 2, none⟩ = some (.int .i64 a1_2) := (blk_cell BK120.out 2).trans rfl; have hcz20_3 : w19.cell? ⟨gb120, 3, none⟩ = some (.slice A1_3 l1_3.length c1_3) := (blk_cell BK120.out 3).trans rfl; have hfz20_0 := blk_frozen BK120.out 0; have hfz20_1 := blk_frozen BK120.out 1; have hfz20_2 := blk_frozen BK120.out 2; have hfz20_3 := blk_frozen BK120.out 3; have hcz21_0 : w19.cell? ⟨gb119, 0, none⟩ = some (.slice A0_0 l0_0.length c0_0) := (blk_cell BK119.out 0).trans rfl; have hcz21_1 : w19.cell? ⟨gb119, 1, none⟩ = some (.int .i64 a0_1) := (blk_cell BK119.out 1).trans rfl; have hcz21_2 : w19.cell? ⟨gb119, 2, none⟩ = some (.int .i64 a0_2) := (blk_cell BK119.out 2).trans rfl; have hfz21_0 := blk_frozen BK119.out 0; have hfz21_1 := blk_frozen BK119.out 1; have hfz21_2 := blk_frozen BK119.out 2) | ((with_reducible refine gate_callee (f := 35) rfl ?_); refine goesL_ (some 25) rfl rfl Tryd.func35 (by kernel_rfl) rfl #[.agg #[.slice A0_0 l0_0.length c0_0, .int .i64 a0_1, .int .i64 a0_2], .int .i64 a1_2] rfl (by (try simp only [List.map_toArray, List.map_cons, List.map_nil]); first | done | rfl | (simp only [List.length_drop, List.length_take]; rfl)) ?_; (with_reducible refine (spec_progTo.calls _ _ l0_0 a0_1 a0_2 a1_2 t122 _ ?side1 ?side2 A15.out).mono ?_); (case side1 => repeat (first | exact (Kd.C_below HR0_0.out HB.out) | (with_reducible refine Kd.C_alloc ?_ _) | (with_reducible refine Kd.C_drewN ?_ _) | (with_reducible refine Kd.C_drew ?_))); (case side2 => exact HC0_0.out); rintro e w22 ⟨rfl, hb⟩; refine ⟨_, rfl, ?_⟩; have n0_ := Aside0.mk (blk_below (g := gb119) (o := .cells #[.slice A0_0 l0_0.length c0_0, .int .i64 a0_1, .int .i64 a0_2] 24 (0, 0)) (by (with_reducible repeat (first | refine blk_drewN ?_ _ | refine blk_drew ?_ | refine blk_alloc ?_ _)); exact BK119.out) hb); have n1_ := Aside0.mk (blk_below (g := gb120) (o := .cells #[.int .i64 a1_0, .int .i64 a1_1, .int .i64 a1_2, .slice A1_3 l1_3.length c1_3] 55 (0, 0)) (by (with_reducible repeat (first | refine blk_drewN ?_ _ | refine blk_drew ?_ | refine blk_alloc ?_ _)); exact BK120.out) hb); have n2_ := Aside0.mk (below_step (by repeat (first | (with_reducible first | exact HB.out | apply below_alloc | apply pw_below_drewN | apply below_drew1 | refine below_set ?_ GE119.out | refine below_set ?_ GE120.out) | exact HB.out)) hb); clear BK119; clear BK120; clear HB; have BK119 := n0_; have BK120 := n1_; have HB := n2_; clear n0_ n1_ n2_; (try clear hb); (try clear hb2); (try clear hk); (try clear hi)))
      go_ret
      exact ⟨by first | rfl | (simp [errW_none, errW_some] <;> rfl) | (simp [*, errW_none, errW_some] <;> rfl), by repeat (first | (with_reducible first | exact HB.out | apply below_alloc | apply pw_below_drewN | apply below_drew1 | refine below_set ?_ GE119.out | refine below_set ?_ GE120.out) | exact HB.out)⟩
     ·rw [if_neg c14] at H
      have c14b0 : (a1_0 == 0) = false := beq_eq_false_iff_ne.mpr c14
      have c14b1 : (a1_0 != 0) = true := bne_iff_ne.mpr c14
      by_cases c23 : a1_0 = 2
      ·rw [if_pos c23] at H
       have c23b0 : (a1_0 == 2) = true := beq_iff_eq.mpr c23
       have c23b1 : (a1_0 != 2) = false := bne_eq_false_iff_eq.mpr c23
       clear c23
       by_cases c24 : 2 ≤ a1_2
       ·rw [if_pos c24] at H
        have c24b0 : decide (2 ≤ a1_2) = true := decide_eq_true c24
        clear c24
        obtain rfl := Option.some.inj H
        have hnb25 := NB119_120.out
        have hnc25 := NB120_119.out
        have hcz26_0 : wc.cell? ⟨gb119, 0, none⟩ = some (.slice A0_0 l0_0.length c0_0) := (blk_cell BK119.out 0).trans rfl
        have hcz26_1 : wc.cell? ⟨gb119, 1, none⟩ = some (.int .i64 a0_1) := (blk_cell BK119.out 1).trans rfl
        have hcz26_2 : wc.cell? ⟨gb119, 2, none⟩ = some (.int .i64 a0_2) := (blk_cell BK119.out 2).trans rfl
        have hfz26_0 := blk_frozen BK119.out 0
        have hfz26_1 := blk_frozen BK119.out 1
        have hfz26_2 := blk_frozen BK119.out 2
        have hcz27_0 : wc.cell? ⟨gb120, 0, none⟩ = some (.int .i64 a1_0) := (blk_cell BK120.out 0).trans rfl
        have hcz27_1 : wc.cell? ⟨gb120, 1, none⟩ = some (.int .i64 a1_1) := (blk_cell BK120.out 1).trans rfl
        have hcz27_2 : wc.cell? ⟨gb120, 2, none⟩ = some (.int .i64 a1_2) := (blk_cell BK120.out 2).trans rfl
        have hcz27_3 : wc.cell? ⟨gb120, 3, none⟩ = some (.slice A1_3 l1_3.length c1_3) := (blk_cell BK120.out 3).trans rfl
        have hfz27_0 := blk_frozen BK120.out 0
        have hfz27_1 := blk_frozen BK120.out 1
        have hfz27_2 := blk_frozen BK120.out 2
        have hfz27_3 := blk_frozen BK120.out 3
        go_wp2_with (first | ((with_reducible refine gate_callee (f := 35) rfl ?_); refine goesL_ (some 16) rfl rfl Tryd.func35 (by kernel_rfl) rfl #[.agg #[.slice A0_0 l0_0.length c0_0, .int .i64 a0_1, .int .i64 a0_2], .int .i64 a1_1] rfl (by (try simp only [List.map_toArray, List.map_cons, List.map_nil]); first | done | rfl | (simp only [List.length_drop, List.length_take]; rfl)) ?_; (with_reducible refine (spec_progTo.calls _ _ l0_0 a0_1 a0_2 a1_1 true _ ?side1 ?side2 A12.out).mono ?_); (case side1 => repeat (first | exact (Kd.C_below HR0_0.out HB.out) | (with_reducible refine Kd.C_alloc ?_ _) | (with_reducible refine Kd.C_drewN ?_ _) | (with_reducible refine Kd.C_drew ?_))); (case side2 => exact HC0_0.out); rintro e w28 ⟨rfl, hb⟩; refine ⟨_, rfl, ?_⟩; have n0_ := Aside0.mk (blk_below (g := gb119) (o := .cells #[.slice A0_0 l0_0.length c0_0, .int .i64 a0_1, .int .i64 a0_2] 24 (0, 0)) (by (with_reducible repeat (first | refine blk_drewN ?_ _ | refine blk_drew ?_ | refine blk_alloc ?_ _)); exact BK119.out) hb); have n1_ := Aside0.mk (blk_below (g := gb120) (o := .cells #[.int .i64 a1_0, .int .i64 a1_1, .int .i64 a1_2, .slice A1_3 l1_3.length c1_3] 55 (0, 0)) (by (with_reducible repeat (first | refine blk_drewN ?_ _ | refine blk_drew ?_ | refine blk_alloc ?_ _)); exact BK120.out) hb); have n2_ := Aside0.mk (below_step (by repeat (first | (with_reducible first | exact HB.out | apply below_alloc | apply pw_below_drewN | apply below_drew1 | refine below_set ?_ GE119.out | refine below_set ?_ GE120.out) | exact HB.out)) hb); clear BK119; clear BK120; clear HB; have BK119 := n0_; have BK120 := n1_; have HB := n2_; clear n0_ n1_ n2_; (try clear hb); (try clear hb2); (try clear hk); (try clear hi); have hcz29_0 : w28.cell? ⟨gb120, 0, none⟩ = some (.int .i64 a1_0) := (blk_cell BK120.out 0).trans rfl; have hcz29_1 : w28.cell? ⟨gb120, 1, none⟩ = some (.int .i64 a1_1) := (blk_cell BK120.out 1).trans rfl; have hcz29_2 : w28.cell? ⟨gb120, 2, none⟩ = some (.int .i64 a1_2) := (blk_cell BK120.out 2).trans rfl; have hcz29_3 : w28.cell? ⟨gb120, 3, none⟩ = some (.slice A1_3 l1_3.length c1_3) := (blk_cell BK120.out 3).trans rfl; have hfz29_0 := blk_frozen BK120.out 0; have hfz29_1 := blk_frozen BK120.out 1; have hfz29_2 := blk_frozen BK120.out 2; have hfz29_3 := blk_frozen BK120.out 3; have hcz30_0 : w28.cell? ⟨gb119, 0, none⟩ = some (.slice A0_0 l0_0.length c0_0) := (blk_cell BK119.out 0).trans rfl; have hcz30_1 : w28.cell? ⟨gb119, 1, none⟩ = some (.int .i64 a0_1) := (blk_cell BK119.out 1).trans rfl; have hcz30_2 : w28.cell? ⟨gb119, 2, none⟩ = some (.int .i64 a0_2) := (blk_cell BK119.out 2).trans rfl; have hfz30_0 := blk_frozen BK119.out 0; have hfz30_1 := blk_frozen BK119.out 1; have hfz30_2 := blk_frozen BK119.out 2))
        go_ret
        exact ⟨by first | rfl | (simp [errW_none, errW_some] <;> rfl) | (simp [*, errW_none, errW_some] <;> rfl), by repeat (first | (with_reducible first | exact HB.out | apply below_alloc | apply pw_below_drewN | apply below_drew1 | refine below_set ?_ GE119.out | refine below_set ?_ GE120.out) | exact HB.out)⟩
       ·rw [if_neg c24] at H
        have c24b0 : decide (2 ≤ a1_2) = false := decide_eq_false c24
        clear c24
        obtain rfl := Option.some.inj H
        have hnb31 := NB119_120.out
        have hnc31 := NB120_119.out
        have hcz32_0 : wc.cell? ⟨gb119, 0, none⟩ = some (.slice A0_0 l0_0.length c0_0) := (blk_cell BK119.out 0).trans rfl
        have hcz32_1 : wc.cell? ⟨gb119, 1, none⟩ = some (.int .i64 a0_1) := (blk_cell BK119.out 1).trans rfl
        have hcz32_2 : wc.cell? ⟨gb119, 2, none⟩ = some (.int .i64 a0_2) := (blk_cell BK119.out 2).trans rfl
        have hfz32_0 := blk_frozen BK119.out 0
        have hfz32_1 := blk_frozen BK119.out 1
        have hfz32_2 := blk_frozen BK119.out 2
        have hcz33_0 : wc.cell? ⟨gb120, 0, none⟩ = some (.int .i64 a1_0) := (blk_cell BK120.out 0).trans rfl
        have hcz33_1 : wc.cell? ⟨gb120, 1, none⟩ = some (.int .i64 a1_1) := (blk_cell BK120.out 1).trans rfl
        have hcz33_2 : wc.cell? ⟨gb120, 2, none⟩ = some (.int .i64 a1_2) := (blk_cell BK120.out 2).trans rfl
        have hcz33_3 : wc.cell? ⟨gb120, 3, none⟩ = some (.slice A1_3 l1_3.length c1_3) := (blk_cell BK120.out 3).trans rfl
        have hfz33_0 := blk_frozen BK120.out 0
        have hfz33_1 := blk_frozen BK120.out 1
        have hfz33_2 := blk_frozen BK120.out 2
        have hfz33_3 := blk_frozen BK120.out 3
        go_wp2_with (first | ((with_reducible refine gate_callee (f := 35) rfl ?_); refine goesL_ (some 16) rfl rfl Tryd.func35 (by kernel_rfl) rfl #[.agg #[.slice A0_0 l0_0.length c0_0, .int .i64 a0_1, .int .i64 a0_2], .int .i64 a1_1] rfl (by (try simp only [List.map_toArray, List.map_cons, List.map_nil]); first | done | rfl | (simp only [List.length_drop, List.length_take]; rfl)) ?_; (with_reducible refine (spec_progTo.calls _ _ l0_0 a0_1 a0_2 a1_1 true _ ?side1 ?side2 A12.out).mono ?_); (case side1 => repeat (first | exact (Kd.C_below HR0_0.out HB.out) | (with_reducible refine Kd.C_alloc ?_ _) | (with_reducible refine Kd.C_drewN ?_ _) | (with_reducible refine Kd.C_drew ?_))); (case side2 => exact HC0_0.out); rintro e w34 ⟨rfl, hb⟩; refine ⟨_, rfl, ?_⟩; have n0_ := Aside0.mk (blk_below (g := gb119) (o := .cells #[.slice A0_0 l0_0.length c0_0, .int .i64 a0_1, .int .i64 a0_2] 24 (0, 0)) (by (with_reducible repeat (first | refine blk_drewN ?_ _ | refine blk_drew ?_ | refine blk_alloc ?_ _)); exact BK119.out) hb); have n1_ := Aside0.mk (blk_below (g := gb120) (o := .cells #[.int .i64 a1_0, .int .i64 a1_1, .int .i64 a1_2, .slice A1_3 l1_3.length c1_3] 55 (0, 0)) (by (with_reducible repeat (first | refine blk_drewN ?_ _ | refine blk_drew ?_ | refine blk_alloc ?_ _)); exact BK120.out) hb); have n2_ := Aside0.mk (below_step (by repeat (first | (with_reducible first | exact HB.out | apply below_alloc | apply pw_below_drewN | apply below_drew1 | refine below_set ?_ GE119.out | refine below_set ?_ GE120.out) | exact HB.out)) hb); clear BK119; clear BK120; clear HB; have BK119 := n0_; have BK120 := n1_; have HB := n2_; clear n0_ n1_ n2_; (try clear hb); (try clear hb2); (try clear hk); (try clear hi); have hcz35_0 : w34.cell? ⟨gb120, 0, none⟩ = some (.int .i64 a1_0) := (blk_cell BK120.out 0).trans rfl; have hcz35_1 : w34.cell? ⟨gb120, 1, none⟩ = some (.int .i64 a1_1) := (blk_cell BK120.out 1).trans rfl; have hcz35_2 : w34.cell? ⟨gb120, 2, none⟩ = some (.int .i64 a1_2) := (blk_cell BK120.out 2).trans rfl; have hcz35_3 : w34.cell? ⟨gb120, 3, none⟩ = some (.slice A1_3 l1_3.length c1_3) := (blk_cell BK120.out 3).trans rfl; have hfz35_0 := blk_frozen BK120.out 0; have hfz35_1 := blk_frozen BK120.out 1; have hfz35_2 := blk_frozen BK120.out 2; have hfz35_3 := blk_frozen BK120.out 3))
        go_ret
        exact ⟨by first | rfl | (simp [errW_none, errW_some] <;> rfl) | (simp [*, errW_none, errW_some] <;> rfl), by repeat (first | (with_reducible first | exact HB.out | apply below_alloc | apply pw_below_drewN | apply below_drew1 | refine below_set ?_ GE119.out | refine below_set ?_ GE120.out) | exact HB.out)⟩
      ·rw [if_neg c23] at H
       have c23b0 : (a1_0 == 2) = false := beq_eq_false_iff_ne.mpr c23
       have c23b1 : (a1_0 != 2) = true := bne_iff_ne.mpr c23
       by_cases c36 : a1_0 = 3
       ·rw [if_pos c36] at H
        have c36b0 : (a1_0 == 3) = true := beq_iff_eq.mpr c36
        have c36b1 : (a1_0 != 3) = false := bne_eq_false_iff_eq.mpr c36
        clear c36
        by_cases c37 : 0 < a1_2
        ·rw [if_pos c37] at H
         have c37b0 : decide (0 < a1_2) = true := decide_eq_true c37
         clear c37
         obtain rfl := Option.some.inj H
         have hnb38 := NB119_120.out
         have hnc38 := NB120_119.out
         have hcz39_0 : wc.cell? ⟨gb119, 0, none⟩ = some (.slice A0_0 l0_0.length c0_0) := (blk_cell BK119.out 0).trans rfl
         have hcz39_1 : wc.cell? ⟨gb119, 1, none⟩ = some (.int .i64 a0_1) := (blk_cell BK119.out 1).trans rfl
         have hcz39_2 : wc.cell? ⟨gb119, 2, none⟩ = some (.int .i64 a0_2) := (blk_cell BK119.out 2).trans rfl
         have hfz39_0 := blk_frozen BK119.out 0
         have hfz39_1 := blk_frozen BK119.out 1
         have hfz39_2 := blk_frozen BK119.out 2
         have hcz40_0 : wc.cell? ⟨gb120, 0, none⟩ = some (.int .i64 a1_0) := (blk_cell BK120.out 0).trans rfl
         have hcz40_1 : wc.cell? ⟨gb120, 1, none⟩ = some (.int .i64 a1_1) := (blk_cell BK120.out 1).trans rfl
         have hcz40_2 : wc.cell? ⟨gb120, 2, none⟩ = some (.int .i64 a1_2) := (blk_cell BK120.out 2).trans rfl
         have hcz40_3 : wc.cell? ⟨gb120, 3, none⟩ = some (.slice A1_3 l1_3.length c1_3) := (blk_cell BK120.out 3).trans rfl
         have hfz40_0 := blk_frozen BK120.out 0
         have hfz40_1 := blk_frozen BK120.out 1
         have hfz40_2 := blk_frozen BK120.out 2
         have hfz40_3 := blk_frozen BK120.out 3
         go_wp2_with (first | ((with_reducible refine gate_callee (f := 35) rfl ?_); refine goesL_ (some 16) rfl rfl Tryd.func35 (by kernel_rfl) rfl #[.agg #[.slice A0_0 l0_0.length c0_0, .int .i64 a0_1, .int .i64 a0_2], .int .i64 a1_1] rfl (by (try simp only [List.map_toArray, List.map_cons, List.map_nil]); first | done | rfl | (simp only [List.length_drop, List.length_take]; rfl)) ?_; (with_reducible refine (spec_progTo.calls _ _ l0_0 a0_1 a0_2 a1_1 true _ ?side1 ?side2 A12.out).mono ?_); (case side1 => repeat (first | exact (Kd.C_below HR0_0.out HB.out) | (with_reducible refine Kd.C_alloc ?_ _) | (with_reducible refine Kd.C_drewN ?_ _) | (with_reducible refine Kd.C_drew ?_))); (case side2 => exact HC0_0.out); rintro e w41 ⟨rfl, hb⟩; refine ⟨_, rfl, ?_⟩; have n0_ := Aside0.mk (blk_below (g := gb119) (o := .cells #[.slice A0_0 l0_0.length c0_0, .int .i64 a0_1, .int .i64 a0_2] 24 (0, 0)) (by (with_reducible repeat (first | refine blk_drewN ?_ _ | refine blk_drew ?_ | refine blk_alloc ?_ _)); exact BK119.out) hb); have n1_ := Aside0.mk (blk_below (g := gb120) (o := .cells #[.int .i64 a1_0, .int .i64 a1_1, .int .i64 a1_2, .slice A1_3 l1_3.length c1_3] 55 (0, 0)) (by (with_reducible repeat (first | refine blk_drewN ?_ _ | refine blk_drew ?_ | refine blk_alloc ?_ _)); exact BK120.out) hb); have n2_ := Aside0.mk (below_step (by repeat (first | (with_reducible first | exact HB.out | apply below_alloc | apply pw_below_drewN | apply below_drew1 | refine below_set ?_ GE119.out | refine below_set ?_ GE120.out) | exact HB.out)) hb); clear BK119; clear BK120; clear HB; have BK119 := n0_; have BK120 := n1_; have HB := n2_; clear n0_ n1_ n2_; (try clear hb); (try clear hb2); (try clear hk); (try clear hi); have hcz42_0 : w41.cell? ⟨gb120, 0, none⟩ = some (.int .i64 a1_0) := (blk_cell BK120.out 0).trans rfl; have hcz42_1 : w41.cell? ⟨gb120, 1, none⟩ = some (.int .i64 a1_1) := (blk_cell BK120.out 1).trans rfl; have hcz42_2 : w41.cell? ⟨gb120, 2, none⟩ = some (.int .i64 a1_2) := (blk_cell BK120.out 2).trans rfl; have hcz42_3 : w41.cell? ⟨gb120, 3, none⟩ = some (.slice A1_3 l1_3.length c1_3) := (blk_cell BK120.out 3).trans rfl; have hfz42_0 := blk_frozen BK120.out 0; have hfz42_1 := blk_frozen BK120.out 1; have hfz42_2 := blk_frozen BK120.out 2; have hfz42_3 := blk_frozen BK120.out 3))
         go_ret
         exact ⟨by first | rfl | (simp [errW_none, errW_some] <;> rfl) | (simp [*, errW_none, errW_some] <;> rfl), by repeat (first | (with_reducible first | exact HB.out | apply below_alloc | apply pw_below_drewN | apply below_drew1 | refine below_set ?_ GE119.out | refine below_set ?_ GE120.out) | exact HB.out)⟩
        ·rw [if_neg c37] at H
         have c37b0 : decide (0 < a1_2) = false := decide_eq_false c37
         clear c37
         obtain rfl := Option.some.inj H
         have hnb43 := NB119_120.out
         have hnc43 := NB120_119.out
         have hcz44_0 : wc.cell? ⟨gb119, 0, none⟩ = some (.slice A0_0 l0_0.length c0_0) := (blk_cell BK119.out 0).trans rfl
         have hcz44_1 : wc.cell? ⟨gb119, 1, none⟩ = some (.int .i64 a0_1) := (blk_cell BK119.out 1).trans rfl
         have hcz44_2 : wc.cell? ⟨gb119, 2, none⟩ = some (.int .i64 a0_2) := (blk_cell BK119.out 2).trans rfl
         have hfz44_0 := blk_frozen BK119.out 0
         have hfz44_1 := blk_frozen BK119.out 1
         have hfz44_2 := blk_frozen BK119.out 2
         have hcz45_0 : wc.cell? ⟨gb120, 0, none⟩ = some (.int .i64 a1_0) := (blk_cell BK120.out 0).trans rfl
         have hcz45_1 : wc.cell? ⟨gb120, 1, none⟩ = some (.int .i64 a1_1) := (blk_cell BK120.out 1).trans rfl
         have hcz45_2 : wc.cell? ⟨gb120, 2, none⟩ = some (.int .i64 a1_2) := (blk_cell BK120.out 2).trans rfl
         have hcz45_3 : wc.cell? ⟨gb120, 3, none⟩ = some (.slice A1_3 l1_3.length c1_3) := (blk_cell BK120.out 3).trans rfl
         have hfz45_0 := blk_frozen BK120.out 0
         have hfz45_1 := blk_frozen BK120.out 1
         have hfz45_2 := blk_frozen BK120.out 2
         have hfz45_3 := blk_frozen BK120.out 3
         go_wp2_with (first | ((with_reducible refine gate_callee (f := 35) rfl ?_); refine goesL_ (some 16) rfl rfl Tryd.func35 (by kernel_rfl) rfl #[.agg #[.slice A0_0 l0_0.length c0_0, .int .i64 a0_1, .int .i64 a0_2], .int .i64 a1_1] rfl (by (try simp only [List.map_toArray, List.map_cons, List.map_nil]); first | done | rfl | (simp only [List.length_drop, List.length_take]; rfl)) ?_; (with_reducible refine (spec_progTo.calls _ _ l0_0 a0_1 a0_2 a1_1 true _ ?side1 ?side2 A12.out).mono ?_); (case side1 => repeat (first | exact (Kd.C_below HR0_0.out HB.out) | (with_reducible refine Kd.C_alloc ?_ _) | (with_reducible refine Kd.C_drewN ?_ _) | (with_reducible refine Kd.C_drew ?_))); (case side2 => exact HC0_0.out); rintro e w46 ⟨rfl, hb⟩; refine ⟨_, rfl, ?_⟩; have n0_ := Aside0.mk (blk_below (g := gb119) (o := .cells #[.slice A0_0 l0_0.length c0_0, .int .i64 a0_1, .int .i64 a0_2] 24 (0, 0)) (by (with_reducible repeat (first | refine blk_drewN ?_ _ | refine blk_drew ?_ | refine blk_alloc ?_ _)); exact BK119.out) hb); have n1_ := Aside0.mk (blk_below (g := gb120) (o := .cells #[.int .i64 a1_0, .int .i64 a1_1, .int .i64 a1_2, .slice A1_3 l1_3.length c1_3] 55 (0, 0)) (by (with_reducible repeat (first | refine blk_drewN ?_ _ | refine blk_drew ?_ | refine blk_alloc ?_ _)); exact BK120.out) hb); have n2_ := Aside0.mk (below_step (by repeat (first | (with_reducible first | exact HB.out | apply below_alloc | apply pw_below_drewN | apply below_drew1 | refine below_set ?_ GE119.out | refine below_set ?_ GE120.out) | exact HB.out)) hb); clear BK119; clear BK120; clear HB; have BK119 := n0_; have BK120 := n1_; have HB := n2_; clear n0_ n1_ n2_; (try clear hb); (try clear hb2); (try clear hk); (try clear hi); have hcz47_0 : w46.cell? ⟨gb120, 0, none⟩ = some (.int .i64 a1_0) := (blk_cell BK120.out 0).trans rfl; have hcz47_1 : w46.cell? ⟨gb120, 1, none⟩ = some (.int .i64 a1_1) := (blk_cell BK120.out 1).trans rfl; have hcz47_2 : w46.cell? ⟨gb120, 2, none⟩ = some (.int .i64 a1_2) := (blk_cell BK120.out 2).trans rfl; have hcz47_3 : w46.cell? ⟨gb120, 3, none⟩ = some (.slice A1_3 l1_3.length c1_3) := (blk_cell BK120.out 3).trans rfl; have hfz47_0 := blk_frozen BK120.out 0; have hfz47_1 := blk_frozen BK120.out 1; have hfz47_2 := blk_frozen BK120.out 2; have hfz47_3 := blk_frozen BK120.out 3))
         go_ret
         exact ⟨by first | rfl | (simp [errW_none, errW_some] <;> rfl) | (simp [*, errW_none, errW_some] <;> rfl), by repeat (first | (with_reducible first | exact HB.out | apply below_alloc | apply pw_below_drewN | apply below_drew1 | refine below_set ?_ GE119.out | refine below_set ?_ GE120.out) | exact HB.out)⟩
       ·rw [if_neg c36] at H
        have c36b0 : (a1_0 == 3) = false := beq_eq_false_iff_ne.mpr c36
        have c36b1 : (a1_0 != 3) = true := bne_iff_ne.mpr c36
        by_cases c48 : a1_0 = 6
        ·rw [if_pos c48] at H
         have c48b0 : (a1_0 == 6) = true := beq_iff_eq.mpr c48
         have c48b1 : (a1_0 != 6) = false := bne_eq_false_iff_eq.mpr c48
         clear c48
         obtain rfl := Option.some.inj H
         have hnb49 := NB119_120.out
         have hnc49 := NB120_119.out
         have hcz50_0 : wc.cell? ⟨gb119, 0, none⟩ = some (.slice A0_0 l0_0.length c0_0) := (blk_cell BK119.out 0).trans rfl
         have hcz50_1 : wc.cell? ⟨gb119, 1, none⟩ = some (.int .i64 a0_1) := (blk_cell BK119.out 1).trans rfl
         have hcz50_2 : wc.cell? ⟨gb119, 2, none⟩ = some (.int .i64 a0_2) := (blk_cell BK119.out 2).trans rfl
         have hfz50_0 := blk_frozen BK119.out 0
         have hfz50_1 := blk_frozen BK119.out 1
         have hfz50_2 := blk_frozen BK119.out 2
         have hcz51_0 : wc.cell? ⟨gb120, 0, none⟩ = some (.int .i64 a1_0) := (blk_cell BK120.out 0).trans rfl
         have hcz51_1 : wc.cell? ⟨gb120, 1, none⟩ = some (.int .i64 a1_1) := (blk_cell BK120.out 1).trans rfl
         have hcz51_2 : wc.cell? ⟨gb120, 2, none⟩ = some (.int .i64 a1_2) := (blk_cell BK120.out 2).trans rfl
         have hcz51_3 : wc.cell? ⟨gb120, 3, none⟩ = some (.slice A1_3 l1_3.length c1_3) := (blk_cell BK120.out 3).trans rfl
         have hfz51_0 := blk_frozen BK120.out 0
         have hfz51_1 := blk_frozen BK120.out 1
         have hfz51_2 := blk_frozen BK120.out 2
         have hfz51_3 := blk_frozen BK120.out 3
         go_wp2_with (first | ((with_reducible refine gate_callee (f := 35) rfl ?_); refine goesL_ (some 16) rfl rfl Tryd.func35 (by kernel_rfl) rfl #[.agg #[.slice A0_0 l0_0.length c0_0, .int .i64 a0_1, .int .i64 a0_2], .int .i64 a1_1] rfl (by (try simp only [List.map_toArray, List.map_cons, List.map_nil]); first | done | rfl | (simp only [List.length_drop, List.length_take]; rfl)) ?_; (with_reducible refine (spec_progTo.calls _ _ l0_0 a0_1 a0_2 a1_1 true _ ?side1 ?side2 A12.out).mono ?_); (case side1 => repeat (first | exact (Kd.C_below HR0_0.out HB.out) | (with_reducible refine Kd.C_alloc ?_ _) | (with_reducible refine Kd.C_drewN ?_ _) | (with_reducible refine Kd.C_drew ?_))); (case side2 => exact HC0_0.out); rintro e w52 ⟨rfl, hb⟩; refine ⟨_, rfl, ?_⟩; have n0_ := Aside0.mk (blk_below (g := gb119) (o := .cells #[.slice A0_0 l0_0.length c0_0, .int .i64 a0_1, .int .i64 a0_2] 24 (0, 0)) (by (with_reducible repeat (first | refine blk_drewN ?_ _ | refine blk_drew ?_ | refine blk_alloc ?_ _)); exact BK119.out) hb); have n1_ := Aside0.mk (blk_below (g := gb120) (o := .cells #[.int .i64 a1_0, .int .i64 a1_1, .int .i64 a1_2, .slice A1_3 l1_3.length c1_3] 55 (0, 0)) (by (with_reducible repeat (first | refine blk_drewN ?_ _ | refine blk_drew ?_ | refine blk_alloc ?_ _)); exact BK120.out) hb); have n2_ := Aside0.mk (below_step (by repeat (first | (with_reducible first | exact HB.out | apply below_alloc | apply pw_below_drewN | apply below_drew1 | refine below_set ?_ GE119.out | refine below_set ?_ GE120.out) | exact HB.out)) hb); clear BK119; clear BK120; clear HB; have BK119 := n0_; have BK120 := n1_; have HB := n2_; clear n0_ n1_ n2_; (try clear hb); (try clear hb2); (try clear hk); (try clear hi); have hcz53_0 : w52.cell? ⟨gb120, 0, none⟩ = some (.int .i64 a1_0) := (blk_cell BK120.out 0).trans rfl; have hcz53_1 : w52.cell? ⟨gb120, 1, none⟩ = some (.int .i64 a1_1) := (blk_cell BK120.out 1).trans rfl; have hcz53_2 : w52.cell? ⟨gb120, 2, none⟩ = some (.int .i64 a1_2) := (blk_cell BK120.out 2).trans rfl; have hcz53_3 : w52.cell? ⟨gb120, 3, none⟩ = some (.slice A1_3 l1_3.length c1_3) := (blk_cell BK120.out 3).trans rfl; have hfz53_0 := blk_frozen BK120.out 0; have hfz53_1 := blk_frozen BK120.out 1; have hfz53_2 := blk_frozen BK120.out 2; have hfz53_3 := blk_frozen BK120.out 3))
         go_ret
         exact ⟨by first | rfl | (simp [errW_none, errW_some] <;> rfl) | (simp [*, errW_none, errW_some] <;> rfl), by repeat (first | (with_reducible first | exact HB.out | apply below_alloc | apply pw_below_drewN | apply below_drew1 | refine below_set ?_ GE119.out | refine below_set ?_ GE120.out) | exact HB.out)⟩
        ·rw [if_neg c48] at H
         have c48b0 : (a1_0 == 6) = false := beq_eq_false_iff_ne.mpr c48
         have c48b1 : (a1_0 != 6) = true := bne_iff_ne.mpr c48
         by_cases c54 : a1_0 = 9
         ·rw [if_pos c54] at H
          have c54b0 : (a1_0 == 9) = true := beq_iff_eq.mpr c54
          have c54b1 : (a1_0 != 9) = false := bne_eq_false_iff_eq.mpr c54
          clear c54
          by_cases c55 : (l1_3.length : Int) = 0
          ·rw [if_pos c55] at H
           have c55b0 : ((l1_3.length : Int) == 0) = true := beq_iff_eq.mpr c55
           have c55b1 : ((l1_3.length : Int) != 0) = false := bne_eq_false_iff_eq.mpr c55
           clear c55
           obtain rfl := Option.some.inj H
           have hnb56 := NB119_120.out
           have hnc56 := NB120_119.out
           have hcz57_0 : wc.cell? ⟨gb119, 0, none⟩ = some (.slice A0_0 l0_0.length c0_0) := (blk_cell BK119.out 0).trans rfl
           have hcz57_1 : wc.cell? ⟨gb119, 1, none⟩ = some (.int .i64 a0_1) := (blk_cell BK119.out 1).trans rfl
           have hcz57_2 : wc.cell? ⟨gb119, 2, none⟩ = some (.int .i64 a0_2) := (blk_cell BK119.out 2).trans rfl
           have hfz57_0 := blk_frozen BK119.out 0
           have hfz57_1 := blk_frozen BK119.out 1
           have hfz57_2 := blk_frozen BK119.out 2
           have hcz58_0 : wc.cell? ⟨gb120, 0, none⟩ = some (.int .i64 a1_0) := (blk_cell BK120.out 0).trans rfl
           have hcz58_1 : wc.cell? ⟨gb120, 1, none⟩ = some (.int .i64 a1_1) := (blk_cell BK120.out 1).trans rfl
           have hcz58_2 : wc.cell? ⟨gb120, 2, none⟩ = some (.int .i64 a1_2) := (blk_cell BK120.out 2).trans rfl
           have hcz58_3 : wc.cell? ⟨gb120, 3, none⟩ = some (.slice A1_3 l1_3.length c1_3) := (blk_cell BK120.out 3).trans rfl
           have hfz58_0 := blk_frozen BK120.out 0
           have hfz58_1 := blk_frozen BK120.out 1
           have hfz58_2 := blk_frozen BK120.out 2
           have hfz58_3 := blk_frozen BK120.out 3
           go_wp2_with (first | ((with_reducible refine gate_callee (f := 35) rfl ?_); refine goesL_ (some 16) rfl rfl Tryd.func35 (by kernel_rfl) rfl #[.agg #[.slice A0_0 l0_0.length c0_0, .int .i64 a0_1, .int .i64 a0_2], .int .i64 a1_1] rfl (by (try simp only [List.map_toArray, List.map_cons, List.map_nil]); first | done | rfl | (simp only [List.length_drop, List.length_take]; rfl)) ?_; (with_reducible refine (spec_progTo.calls _ _ l0_0 a0_1 a0_2 a1_1 true _ ?side1 ?side2 A12.out).mono ?_); (case side1 => repeat (first | exact (Kd.C_below HR0_0.out HB.out) | (with_reducible refine Kd.C_alloc ?_ _) | (with_reducible refine Kd.C_drewN ?_ _) | (with_reducible refine Kd.C_drew ?_))); (case side2 => exact HC0_0.out); rintro e w59 ⟨rfl, hb⟩; refine ⟨_, rfl, ?_⟩; have n0_ := Aside0.mk (blk_below (g := gb119) (o := .cells #[.slice A0_0 l0_0.length c0_0, .int .i64 a0_1, .int .i64 a0_2] 24 (0, 0)) (by (with_reducible repeat (first | refine blk_drewN ?_ _ | refine blk_drew ?_ | refine blk_alloc ?_ _)); exact BK119.out) hb); have n1_ := Aside0.mk (blk_below (g := gb120) (o := .cells #[.int .i64 a1_0, .int .i64 a1_1, .int .i64 a1_2, .slice A1_3 l1_3.length c1_3] 55 (0, 0)) (by (with_reducible repeat (first | refine blk_drewN ?_ _ | refine blk_drew ?_ | refine blk_alloc ?_ _)); exact BK120.out) hb); have n2_ := Aside0.mk (below_step (by repeat (first | (with_reducible first | exact HB.out | apply below_alloc | apply pw_below_drewN | apply below_drew1 | refine below_set ?_ GE119.out | refine below_set ?_ GE120.out) | exact HB.out)) hb); clear BK119; clear BK120; clear HB; have BK119 := n0_; have BK120 := n1_; have HB := n2_; clear n0_ n1_ n2_; (try clear hb); (try clear hb2); (try clear hk); (try clear hi); have hcz60_0 : w59.cell? ⟨gb120, 0, none⟩ = some (.int .i64 a1_0) := (blk_cell BK120.out 0).trans rfl; have hcz60_1 : w59.cell? ⟨gb120, 1, none⟩ = some (.int .i64 a1_1) := (blk_cell BK120.out 1).trans rfl; have hcz60_2 : w59.cell? ⟨gb120, 2, none⟩ = some (.int .i64 a1_2) := (blk_cell BK120.out 2).trans rfl; have hcz60_3 : w59.cell? ⟨gb120, 3, none⟩ = some (.slice A1_3 l1_3.length c1_3) := (blk_cell BK120.out 3).trans rfl; have hfz60_0 := blk_frozen BK120.out 0; have hfz60_1 := blk_frozen BK120.out 1; have hfz60_2 := blk_frozen BK120.out 2; have hfz60_3 := blk_frozen BK120.out 3))
           go_ret
           exact ⟨by first | rfl | (simp [errW_none, errW_some] <;> rfl) | (simp [*, errW_none, errW_some] <;> rfl), by repeat (first | (with_reducible first | exact HB.out | apply below_alloc | apply pw_below_drewN | apply below_drew1 | refine below_set ?_ GE119.out | refine below_set ?_ GE120.out) | exact HB.out)⟩
          ·rw [if_neg c55] at H
           have c55b0 : ((l1_3.length : Int) == 0) = false := beq_eq_false_iff_ne.mpr c55
           have c55b1 : ((l1_3.length : Int) != 0) = true := bne_iff_ne.mpr c55
           have c55b2 : ¬ (l1_3 = []) := fun h_ => c55 (by rw [h_]; rfl)
           obtain ⟨y123, hy123⟩ : ∃ y_ : List Int, y_ = (([0, 1114111] : List Int)) := ⟨_, rfl⟩
           replace H : ((spec_progSame.f kj2 l1_3 y123).bind fun t126 => (some t126)) = some r := by first | (rw [hy123]; with_reducible exact H) | (have H2_ := (Option.bind_some _ _).symm.trans H; rw [hy123]; with_reducible exact H2_) | (have H2_ := (Option.bind_some _ _).symm.trans H; with_reducible exact H2_) | with_reducible exact H | (rw [hy123]; exact H) | exact H
           have Ny123 := Aside0.mk hy123
           clear hy123
           replace H := Option.bind_eq_some_iff.mp H
           obtain ⟨t126, A610, H⟩ := H
           replace H : (some t126) = some r := H
           have A61 := Aside0.mk A610
           clear A610
           obtain rfl := Option.some.inj H
           have hnb62 := NB119_120.out
           have hnc62 := NB120_119.out
           have hcz63_0 : wc.cell? ⟨gb119, 0, none⟩ = some (.slice A0_0 l0_0.length c0_0) := (blk_cell BK119.out 0).trans rfl
           have hcz63_1 : wc.cell? ⟨gb119, 1, none⟩ = some (.int .i64 a0_1) := (blk_cell BK119.out 1).trans rfl
           have hcz63_2 : wc.cell? ⟨gb119, 2, none⟩ = some (.int .i64 a0_2) := (blk_cell BK119.out 2).trans rfl
           have hfz63_0 := blk_frozen BK119.out 0
           have hfz63_1 := blk_frozen BK119.out 1
           have hfz63_2 := blk_frozen BK119.out 2
           have hcz64_0 : wc.cell? ⟨gb120, 0, none⟩ = some (.int .i64 a1_0) := (blk_cell BK120.out 0).trans rfl
           have hcz64_1 : wc.cell? ⟨gb120, 1, none⟩ = some (.int .i64 a1_1) := (blk_cell BK120.out 1).trans rfl
           have hcz64_2 : wc.cell? ⟨gb120, 2, none⟩ = some (.int .i64 a1_2) := (blk_cell BK120.out 2).trans rfl
           have hcz64_3 : wc.cell? ⟨gb120, 3, none⟩ = some (.slice A1_3 l1_3.length c1_3) := (blk_cell BK120.out 3).trans rfl
           have hfz64_0 := blk_frozen BK120.out 0
           have hfz64_1 := blk_frozen BK120.out 1
           have hfz64_2 := blk_frozen BK120.out 2
           have hfz64_3 := blk_frozen BK120.out 3
           go_wp2_with (first | ((with_reducible refine gate_callee (f := 35) rfl ?_); refine goesL_ (some 16) rfl rfl Tryd.func35 (by kernel_rfl) rfl #[.agg #[.slice A0_0 l0_0.length c0_0, .int .i64 a0_1, .int .i64 a0_2], .int .i64 a1_1] rfl (by (try simp only [List.map_toArray, List.map_cons, List.map_nil]); first | done | rfl | (simp only [List.length_drop, List.length_take]; rfl)) ?_; (with_reducible refine (spec_progTo.calls _ _ l0_0 a0_1 a0_2 a1_1 true _ ?side1 ?side2 A12.out).mono ?_); (case side1 => repeat (first | exact (Kd.C_below HR0_0.out HB.out) | (with_reducible refine Kd.C_alloc ?_ _) | (with_reducible refine Kd.C_drewN ?_ _) | (with_reducible refine Kd.C_drew ?_))); (case side2 => exact HC0_0.out); rintro e w65 ⟨rfl, hb⟩; refine ⟨_, rfl, ?_⟩; have n0_ := Aside0.mk (blk_below (g := gb119) (o := .cells #[.slice A0_0 l0_0.length c0_0, .int .i64 a0_1, .int .i64 a0_2] 24 (0, 0)) (by (with_reducible repeat (first | refine blk_drewN ?_ _ | refine blk_drew ?_ | refine blk_alloc ?_ _)); exact BK119.out) hb); have n1_ := Aside0.mk (blk_below (g := gb120) (o := .cells #[.int .i64 a1_0, .int .i64 a1_1, .int .i64 a1_2, .slice A1_3 l1_3.length c1_3] 55 (0, 0)) (by (with_reducible repeat (first | refine blk_drewN ?_ _ | refine blk_drew ?_ | refine blk_alloc ?_ _)); exact BK120.out) hb); have n2_ := Aside0.mk (below_step (by repeat (first | (with_reducible first | exact HB.out | apply below_alloc | apply pw_below_drewN | apply below_drew1 | refine below_set ?_ GE119.out | refine below_set ?_ GE120.out) | exact HB.out)) hb); clear BK119; clear BK120; clear HB; have BK119 := n0_; have BK120 := n1_; have HB := n2_; clear n0_ n1_ n2_; (try clear hb); (try clear hb2); (try clear hk); (try clear hi); have hcz66_0 : w65.cell? ⟨gb120, 0, none⟩ = some (.int .i64 a1_0) := (blk_cell BK120.out 0).trans rfl; have hcz66_1 : w65.cell? ⟨gb120, 1, none⟩ = some (.int .i64 a1_1) := (blk_cell BK120.out 1).trans rfl; have hcz66_2 : w65.cell? ⟨gb120, 2, none⟩ = some (.int .i64 a1_2) := (blk_cell BK120.out 2).trans rfl; have hcz66_3 : w65.cell? ⟨gb120, 3, none⟩ = some (.slice A1_3 l1_3.length c1_3) := (blk_cell BK120.out 3).trans rfl; have hfz66_0 := blk_frozen BK120.out 0; have hfz66_1 := blk_frozen BK120.out 1; have hfz66_2 := blk_frozen BK120.out 2; have hfz66_3 := blk_frozen BK120.out 3) | ((with_reducible refine gate_dst (N := 59) rfl ?_); (try (refine gate_guard (by rfl) ?_; dsimp only)); refine Kd.R_lit (Kd.int .i32) _ 21 ?hg (N := 59) ?hd (xs := ([0, 1114111] : List Int)) (inner := [.int .i32 0, .int .i32 1114111]) (ok := fun _ => True) (okp := fun _ => True) ?hr ?hp (fun _ hk => hk) trivial (Below.refl _ _) (Nat.le_refl _) (by simp) ?_; (case hd => rfl); (case hg => rfl); (case hr => first | (go_simp; done) | (go_simp; rfl)); (case hp => exact (Reps.one (show Kd.M (Kd.int .i32) _ _ _ 0 [.int .i32 0] from rfl) (Reps.one (show Kd.M (Kd.int .i32) _ _ _ 1114111 [.int .i32 1114111] from rfl) (Reps.none _ _)))); intro v124 w67 ho68 hb hg_ hnew_; clear hg_ hnew_; (first | rw [← Ny123.out] at ho68 | (simp only [Int.reduceToNat] at ho68; rw [← Ny123.out] at ho68)); have n0_ := Aside0.mk (Kd.R_lower ho68 (below_size (by repeat (first | (with_reducible first | exact HB.out | apply below_alloc | apply pw_below_drewN | apply below_drew1 | refine below_set ?_ GE119.out | refine below_set ?_ GE120.out) | exact HB.out)))); have n1_ := Aside0.mk (blk_below (g := gb119) (o := .cells #[.slice A0_0 l0_0.length c0_0, .int .i64 a0_1, .int .i64 a0_2] 24 (0, 0)) (by (with_reducible repeat (first | refine blk_drewN ?_ _ | refine blk_drew ?_ | refine blk_alloc ?_ _)); exact BK119.out) hb); have n2_ := Aside0.mk (blk_below (g := gb120) (o := .cells #[.int .i64 a1_0, .int .i64 a1_1, .int .i64 a1_2, .slice A1_3 l1_3.length c1_3] 55 (0, 0)) (by (with_reducible repeat (first | refine blk_drewN ?_ _ | refine blk_drew ?_ | refine blk_alloc ?_ _)); exact BK120.out) hb); have n3_ := Aside0.mk (below_step (by repeat (first | (with_reducible first | exact HB.out | apply below_alloc | apply pw_below_drewN | apply below_drew1 | refine below_set ?_ GE119.out | refine below_set ?_ GE120.out) | exact HB.out)) hb); clear BK119; clear BK120; clear HB; have HO125 := n0_; have BK119 := n1_; have BK120 := n2_; have HB := n3_; clear n0_ n1_ n2_ n3_; clear hb ho68; obtain ⟨Ao69, co69, eo69⟩ := Kd.R_slice HO125.out; subst eo69) | (go_at_call 52; (with_reducible refine (spec_progSame.calls kj2 _ _ l1_3 _ _ y123 t126 _ ?side1 ?side2 ?side3 ?side4 A61.out).mono ?_); (case side1 => repeat (first | exact (Kd.C_below HR1_3.out HB.out) | (with_reducible refine Kd.C_alloc ?_ _) | (with_reducible refine Kd.C_drewN ?_ _) | (with_reducible refine Kd.C_drew ?_))); (case side2 => exact HC1_3.out); (case side3 => repeat (first | exact (Kd.R_reads' HO125.out).2.2 | (with_reducible refine Kd.C_alloc ?_ _) | (with_reducible refine Kd.C_drewN ?_ _) | (with_reducible refine Kd.C_drew ?_))); (case side4 => exact (Kd.R_reads' HO125.out).2.1); rintro e w' ⟨rfl, ⟨nd, rfl⟩⟩))
           go_ret
           exact ⟨by first | rfl | (simp [errW_none, errW_some] <;> rfl) | (simp [*, errW_none, errW_some] <;> rfl), by repeat (first | (with_reducible first | exact HB.out | apply below_alloc | apply pw_below_drewN | apply below_drew1 | refine below_set ?_ GE119.out | refine below_set ?_ GE120.out) | exact HB.out)⟩
         ·rw [if_neg c54] at H
          have c54b0 : (a1_0 == 9) = false := beq_eq_false_iff_ne.mpr c54
          have c54b1 : (a1_0 != 9) = true := bne_iff_ne.mpr c54
          by_cases c70 : a1_0 = 10
          ·rw [if_pos c70] at H
           have c70b0 : (a1_0 == 10) = true := beq_iff_eq.mpr c70
           have c70b1 : (a1_0 != 10) = false := bne_eq_false_iff_eq.mpr c70
           clear c70
           by_cases c71 : (l1_3.length : Int) = 0
           ·rw [if_pos c71] at H
            have c71b0 : ((l1_3.length : Int) == 0) = true := beq_iff_eq.mpr c71
            have c71b1 : ((l1_3.length : Int) != 0) = false := bne_eq_false_iff_eq.mpr c71
            clear c71
            obtain rfl := Option.some.inj H
            have hnb72 := NB119_120.out
            have hnc72 := NB120_119.out
            have hcz73_0 : wc.cell? ⟨gb119, 0, none⟩ = some (.slice A0_0 l0_0.length c0_0) := (blk_cell BK119.out 0).trans rfl
            have hcz73_1 : wc.cell? ⟨gb119, 1, none⟩ = some (.int .i64 a0_1) := (blk_cell BK119.out 1).trans rfl
            have hcz73_2 : wc.cell? ⟨gb119, 2, none⟩ = some (.int .i64 a0_2) := (blk_cell BK119.out 2).trans rfl
            have hfz73_0 := blk_frozen BK119.out 0
            have hfz73_1 := blk_frozen BK119.out 1
            have hfz73_2 := blk_frozen BK119.out 2
            have hcz74_0 : wc.cell? ⟨gb120, 0, none⟩ = some (.int .i64 a1_0) := (blk_cell BK120.out 0).trans rfl
            have hcz74_1 : wc.cell? ⟨gb120, 1, none⟩ = some (.int .i64 a1_1) := (blk_cell BK120.out 1).trans rfl
            have hcz74_2 : wc.cell? ⟨gb120, 2, none⟩ = some (.int .i64 a1_2) := (blk_cell BK120.out 2).trans rfl
            have hcz74_3 : wc.cell? ⟨gb120, 3, none⟩ = some (.slice A1_3 l1_3.length c1_3) := (blk_cell BK120.out 3).trans rfl
            have hfz74_0 := blk_frozen BK120.out 0
            have hfz74_1 := blk_frozen BK120.out 1
            have hfz74_2 := blk_frozen BK120.out 2
            have hfz74_3 := blk_frozen BK120.out 3
            go_wp2_with (first | ((with_reducible refine gate_callee (f := 35) rfl ?_); refine goesL_ (some 16) rfl rfl Tryd.func35 (by kernel_rfl) rfl #[.agg #[.slice A0_0 l0_0.length c0_0, .int .i64 a0_1, .int .i64 a0_2], .int .i64 a1_1] rfl (by (try simp only [List.map_toArray, List.map_cons, List.map_nil]); first | done | rfl | (simp only [List.length_drop, List.length_take]; rfl)) ?_; (with_reducible refine (spec_progTo.calls _ _ l0_0 a0_1 a0_2 a1_1 true _ ?side1 ?side2 A12.out).mono ?_); (case side1 => repeat (first | exact (Kd.C_below HR0_0.out HB.out) | (with_reducible refine Kd.C_alloc ?_ _) | (with_reducible refine Kd.C_drewN ?_ _) | (with_reducible refine Kd.C_drew ?_))); (case side2 => exact HC0_0.out); rintro e w75 ⟨rfl, hb⟩; refine ⟨_, rfl, ?_⟩; have n0_ := Aside0.mk (blk_below (g := gb119) (o := .cells #[.slice A0_0 l0_0.length c0_0, .int .i64 a0_1, .int .i64 a0_2] 24 (0, 0)) (by (with_reducible repeat (first | refine blk_drewN ?_ _ | refine blk_drew ?_ | refine blk_alloc ?_ _)); exact BK119.out) hb); have n1_ := Aside0.mk (blk_below (g := gb120) (o := .cells #[.int .i64 a1_0, .int .i64 a1_1, .int .i64 a1_2, .slice A1_3 l1_3.length c1_3] 55 (0, 0)) (by (with_reducible repeat (first | refine blk_drewN ?_ _ | refine blk_drew ?_ | refine blk_alloc ?_ _)); exact BK120.out) hb); have n2_ := Aside0.mk (below_step (by repeat (first | (with_reducible first | exact HB.out | apply below_alloc | apply pw_below_drewN | apply below_drew1 | refine below_set ?_ GE119.out | refine below_set ?_ GE120.out) | exact HB.out)) hb); clear BK119; clear BK120; clear HB; have BK119 := n0_; have BK120 := n1_; have HB := n2_; clear n0_ n1_ n2_; (try clear hb); (try clear hb2); (try clear hk); (try clear hi); have hcz76_0 : w75.cell? ⟨gb120, 0, none⟩ = some (.int .i64 a1_0) := (blk_cell BK120.out 0).trans rfl; have hcz76_1 : w75.cell? ⟨gb120, 1, none⟩ = some (.int .i64 a1_1) := (blk_cell BK120.out 1).trans rfl; have hcz76_2 : w75.cell? ⟨gb120, 2, none⟩ = some (.int .i64 a1_2) := (blk_cell BK120.out 2).trans rfl; have hcz76_3 : w75.cell? ⟨gb120, 3, none⟩ = some (.slice A1_3 l1_3.length c1_3) := (blk_cell BK120.out 3).trans rfl; have hfz76_0 := blk_frozen BK120.out 0; have hfz76_1 := blk_frozen BK120.out 1; have hfz76_2 := blk_frozen BK120.out 2; have hfz76_3 := blk_frozen BK120.out 3))
            go_ret
            exact ⟨by first | rfl | (simp [errW_none, errW_some] <;> rfl) | (simp [*, errW_none, errW_some] <;> rfl), by repeat (first | (with_reducible first | exact HB.out | apply below_alloc | apply pw_below_drewN | apply below_drew1 | refine below_set ?_ GE119.out | refine below_set ?_ GE120.out) | exact HB.out)⟩
           ·rw [if_neg c71] at H
            have c71b0 : ((l1_3.length : Int) == 0) = false := beq_eq_false_iff_ne.mpr c71
            have c71b1 : ((l1_3.length : Int) != 0) = true := bne_iff_ne.mpr c71
            have c71b2 : ¬ (l1_3 = []) := fun h_ => c71 (by rw [h_]; rfl)
            obtain ⟨y127, hy127⟩ : ∃ y_ : List Int, y_ = (([0, 9, 11, 1114111] : List Int)) := ⟨_, rfl⟩
            replace H : ((spec_progSame.f kj2 l1_3 y127).bind fun t130 => (some t130)) = some r := by first | (rw [hy127]; with_reducible exact H) | (have H2_ := (Option.bind_some _ _).symm.trans H; rw [hy127]; with_reducible exact H2_) | (have H2_ := (Option.bind_some _ _).symm.trans H; with_reducible exact H2_) | with_reducible exact H | (rw [hy127]; exact H) | exact H
            have Ny127 := Aside0.mk hy127
            clear hy127
            replace H := Option.bind_eq_some_iff.mp H
            obtain ⟨t130, A770, H⟩ := H
            replace H : (some t130) = some r := H
            have A77 := Aside0.mk A770
            clear A770
            obtain rfl := Option.some.inj H
            have hnb78 := NB119_120.out
            have hnc78 := NB120_119.out
            have hcz79_0 : wc.cell? ⟨gb119, 0, none⟩ = some (.slice A0_0 l0_0.length c0_0) := (blk_cell BK119.out 0).trans rfl
            have hcz79_1 : wc.cell? ⟨gb119, 1, none⟩ = some (.int .i64 a0_1) := (blk_cell BK119.out 1).trans rfl
            have hcz79_2 : wc.cell? ⟨gb119, 2, none⟩ = some (.int .i64 a0_2) := (blk_cell BK119.out 2).trans rfl
            have hfz79_0 := blk_frozen BK119.out 0
            have hfz79_1 := blk_frozen BK119.out 1
            have hfz79_2 := blk_frozen BK119.out 2
            have hcz80_0 : wc.cell? ⟨gb120, 0, none⟩ = some (.int .i64 a1_0) := (blk_cell BK120.out 0).trans rfl
            have hcz80_1 : wc.cell? ⟨gb120, 1, none⟩ = some (.int .i64 a1_1) := (blk_cell BK120.out 1).trans rfl
            have hcz80_2 : wc.cell? ⟨gb120, 2, none⟩ = some (.int .i64 a1_2) := (blk_cell BK120.out 2).trans rfl
            have hcz80_3 : wc.cell? ⟨gb120, 3, none⟩ = some (.slice A1_3 l1_3.length c1_3) := (blk_cell BK120.out 3).trans rfl
            have hfz80_0 := blk_frozen BK120.out 0
            have hfz80_1 := blk_frozen BK120.out 1
            have hfz80_2 := blk_frozen BK120.out 2
            have hfz80_3 := blk_frozen BK120.out 3
            go_wp2_with (first | ((with_reducible refine gate_callee (f := 35) rfl ?_); refine goesL_ (some 16) rfl rfl Tryd.func35 (by kernel_rfl) rfl #[.agg #[.slice A0_0 l0_0.length c0_0, .int .i64 a0_1, .int .i64 a0_2], .int .i64 a1_1] rfl (by (try simp only [List.map_toArray, List.map_cons, List.map_nil]); first | done | rfl | (simp only [List.length_drop, List.length_take]; rfl)) ?_; (with_reducible refine (spec_progTo.calls _ _ l0_0 a0_1 a0_2 a1_1 true _ ?side1 ?side2 A12.out).mono ?_); (case side1 => repeat (first | exact (Kd.C_below HR0_0.out HB.out) | (with_reducible refine Kd.C_alloc ?_ _) | (with_reducible refine Kd.C_drewN ?_ _) | (with_reducible refine Kd.C_drew ?_))); (case side2 => exact HC0_0.out); rintro e w81 ⟨rfl, hb⟩; refine ⟨_, rfl, ?_⟩; have n0_ := Aside0.mk (blk_below (g := gb119) (o := .cells #[.slice A0_0 l0_0.length c0_0, .int .i64 a0_1, .int .i64 a0_2] 24 (0, 0)) (by (with_reducible repeat (first | refine blk_drewN ?_ _ | refine blk_drew ?_ | refine blk_alloc ?_ _)); exact BK119.out) hb); have n1_ := Aside0.mk (blk_below (g := gb120) (o := .cells #[.int .i64 a1_0, .int .i64 a1_1, .int .i64 a1_2, .slice A1_3 l1_3.length c1_3] 55 (0, 0)) (by (with_reducible repeat (first | refine blk_drewN ?_ _ | refine blk_drew ?_ | refine blk_alloc ?_ _)); exact BK120.out) hb); have n2_ := Aside0.mk (below_step (by repeat (first | (with_reducible first | exact HB.out | apply below_alloc | apply pw_below_drewN | apply below_drew1 | refine below_set ?_ GE119.out | refine below_set ?_ GE120.out) | exact HB.out)) hb); clear BK119; clear BK120; clear HB; have BK119 := n0_; have BK120 := n1_; have HB := n2_; clear n0_ n1_ n2_; (try clear hb); (try clear hb2); (try clear hk); (try clear hi); have hcz82_0 : w81.cell? ⟨gb120, 0, none⟩ = some (.int .i64 a1_0) := (blk_cell BK120.out 0).trans rfl; have hcz82_1 : w81.cell? ⟨gb120, 1, none⟩ = some (.int .i64 a1_1) := (blk_cell BK120.out 1).trans rfl; have hcz82_2 : w81.cell? ⟨gb120, 2, none⟩ = some (.int .i64 a1_2) := (blk_cell BK120.out 2).trans rfl; have hcz82_3 : w81.cell? ⟨gb120, 3, none⟩ = some (.slice A1_3 l1_3.length c1_3) := (blk_cell BK120.out 3).trans rfl; have hfz82_0 := blk_frozen BK120.out 0; have hfz82_1 := blk_frozen BK120.out 1; have hfz82_2 := blk_frozen BK120.out 2; have hfz82_3 := blk_frozen BK120.out 3) | ((with_reducible refine gate_dst (N := 71) rfl ?_); (try (refine gate_guard (by rfl) ?_; dsimp only)); refine Kd.R_lit (Kd.int .i32) _ 21 ?hg (N := 71) ?hd (xs := ([0, 9, 11, 1114111] : List Int)) (inner := [.int .i32 0, .int .i32 9, .int .i32 11, .int .i32 1114111]) (ok := fun _ => True) (okp := fun _ => True) ?hr ?hp (fun _ hk => hk) trivial (Below.refl _ _) (Nat.le_refl _) (by simp) ?_; (case hd => rfl); (case hg => rfl); (case hr => first | (go_simp; done) | (go_simp; rfl)); (case hp => exact (Reps.one (show Kd.M (Kd.int .i32) _ _ _ 0 [.int .i32 0] from rfl) (Reps.one (show Kd.M (Kd.int .i32) _ _ _ 9 [.int .i32 9] from rfl) (Reps.one (show Kd.M (Kd.int .i32) _ _ _ 11 [.int .i32 11] from rfl) (Reps.one (show Kd.M (Kd.int .i32) _ _ _ 1114111 [.int .i32 1114111] from rfl) (Reps.none _ _)))))); intro v128 w83 ho84 hb hg_ hnew_; clear hg_ hnew_; (first | rw [← Ny127.out] at ho84 | (simp only [Int.reduceToNat] at ho84; rw [← Ny127.out] at ho84)); have n0_ := Aside0.mk (Kd.R_lower ho84 (below_size (by repeat (first | (with_reducible first | exact HB.out | apply below_alloc | apply pw_below_drewN | apply below_drew1 | refine below_set ?_ GE119.out | refine below_set ?_ GE120.out) | exact HB.out)))); have n1_ := Aside0.mk (blk_below (g := gb119) (o := .cells #[.slice A0_0 l0_0.length c0_0, .int .i64 a0_1, .int .i64 a0_2] 24 (0, 0)) (by (with_reducible repeat (first | refine blk_drewN ?_ _ | refine blk_drew ?_ | refine blk_alloc ?_ _)); exact BK119.out) hb); have n2_ := Aside0.mk (blk_below (g := gb120) (o := .cells #[.int .i64 a1_0, .int .i64 a1_1, .int .i64 a1_2, .slice A1_3 l1_3.length c1_3] 55 (0, 0)) (by (with_reducible repeat (first | refine blk_drewN ?_ _ | refine blk_drew ?_ | refine blk_alloc ?_ _)); exact BK120.out) hb); have n3_ := Aside0.mk (below_step (by repeat (first | (with_reducible first | exact HB.out | apply below_alloc | apply pw_below_drewN | apply below_drew1 | refine below_set ?_ GE119.out | refine below_set ?_ GE120.out) | exact HB.out)) hb); clear BK119; clear BK120; clear HB; have HO129 := n0_; have BK119 := n1_; have BK120 := n2_; have HB := n3_; clear n0_ n1_ n2_ n3_; clear hb ho84; obtain ⟨Ao85, co85, eo85⟩ := Kd.R_slice HO129.out; subst eo85) | (go_at_call 52; (with_reducible refine (spec_progSame.calls kj2 _ _ l1_3 _ _ y127 t130 _ ?side1 ?side2 ?side3 ?side4 A77.out).mono ?_); (case side1 => repeat (first | exact (Kd.C_below HR1_3.out HB.out) | (with_reducible refine Kd.C_alloc ?_ _) | (with_reducible refine Kd.C_drewN ?_ _) | (with_reducible refine Kd.C_drew ?_))); (case side2 => exact HC1_3.out); (case side3 => repeat (first | exact (Kd.R_reads' HO129.out).2.2 | (with_reducible refine Kd.C_alloc ?_ _) | (with_reducible refine Kd.C_drewN ?_ _) | (with_reducible refine Kd.C_drew ?_))); (case side4 => exact (Kd.R_reads' HO129.out).2.1); rintro e w' ⟨rfl, ⟨nd, rfl⟩⟩))
            go_ret
            exact ⟨by first | rfl | (simp [errW_none, errW_some] <;> rfl) | (simp [*, errW_none, errW_some] <;> rfl), by repeat (first | (with_reducible first | exact HB.out | apply below_alloc | apply pw_below_drewN | apply below_drew1 | refine below_set ?_ GE119.out | refine below_set ?_ GE120.out) | exact HB.out)⟩
          ·rw [if_neg c70] at H
           have c70b0 : (a1_0 == 10) = false := beq_eq_false_iff_ne.mpr c70
           have c70b1 : (a1_0 != 10) = true := bne_iff_ne.mpr c70
           by_cases c86 : a1_0 = 8
           ·rw [if_pos c86] at H
            have c86b0 : (a1_0 == 8) = true := beq_iff_eq.mpr c86
            have c86b1 : (a1_0 != 8) = false := bne_eq_false_iff_eq.mpr c86
            clear c86
            by_cases c87 : (l1_3.length : Int) = 1
            ·rw [if_pos c87] at H
             have c87b0 : ((l1_3.length : Int) == 1) = true := beq_iff_eq.mpr c87
             have c87b1 : ((l1_3.length : Int) != 1) = false := bne_eq_false_iff_eq.mpr c87
             clear c87
             replace H := Option.bind_eq_some_iff.mp H
             obtain ⟨t131, A880, H⟩ := H
             replace H : (some t131) = some r := H
             have A88 := Aside0.mk A880
             clear A880
             obtain rfl := Option.some.inj H
             have hnb89 := NB119_120.out
             have hnc89 := NB120_119.out
             have hcz90_0 : wc.cell? ⟨gb119, 0, none⟩ = some (.slice A0_0 l0_0.length c0_0) := (blk_cell BK119.out 0).trans rfl
             have hcz90_1 : wc.cell? ⟨gb119, 1, none⟩ = some (.int .i64 a0_1) := (blk_cell BK119.out 1).trans rfl
             have hcz90_2 : wc.cell? ⟨gb119, 2, none⟩ = some (.int .i64 a0_2) := (blk_cell BK119.out 2).trans rfl
             have hfz90_0 := blk_frozen BK119.out 0
             have hfz90_1 := blk_frozen BK119.out 1
             have hfz90_2 := blk_frozen BK119.out 2
             have hcz91_0 : wc.cell? ⟨gb120, 0, none⟩ = some (.int .i64 a1_0) := (blk_cell BK120.out 0).trans rfl
             have hcz91_1 : wc.cell? ⟨gb120, 1, none⟩ = some (.int .i64 a1_1) := (blk_cell BK120.out 1).trans rfl
             have hcz91_2 : wc.cell? ⟨gb120, 2, none⟩ = some (.int .i64 a1_2) := (blk_cell BK120.out 2).trans rfl
             have hcz91_3 : wc.cell? ⟨gb120, 3, none⟩ = some (.slice A1_3 l1_3.length c1_3) := (blk_cell BK120.out 3).trans rfl
             have hfz91_0 := blk_frozen BK120.out 0
             have hfz91_1 := blk_frozen BK120.out 1
             have hfz91_2 := blk_frozen BK120.out 2
             have hfz91_3 := blk_frozen BK120.out 3
             try go_wp2_with (first | ((with_reducible refine gate_callee (f := 35) rfl ?_); refine goesL_ (some 16) rfl rfl Tryd.func35 (by kernel_rfl) rfl #[.agg #[.slice A0_0 l0_0.length c0_0, .int .i64 a0_1, .int .i64 a0_2], .int .i64 a1_1] rfl (by (try simp only [List.map_toArray, List.map_cons, List.map_nil]); first | done | rfl | (simp only [List.length_drop, List.length_take]; rfl)) ?_; (with_reducible refine (spec_progTo.calls _ _ l0_0 a0_1 a0_2 a1_1 true _ ?side1 ?side2 A12.out).mono ?_); (case side1 => repeat (first | exact (Kd.C_below HR0_0.out HB.out) | (with_reducible refine Kd.C_alloc ?_ _) | (with_reducible refine Kd.C_drewN ?_ _) | (with_reducible refine Kd.C_drew ?_))); (case side2 => exact HC0_0.out); rintro e w92 ⟨rfl, hb⟩; refine ⟨_, rfl, ?_⟩; have n0_ := Aside0.mk (blk_below (g := gb119) (o := .cells #[.slice A0_0 l0_0.length c0_0, .int .i64 a0_1, .int .i64 a0_2] 24 (0, 0)) (by (with_reducible repeat (first | refine blk_drewN ?_ _ | refine blk_drew ?_ | refine blk_alloc ?_ _)); exact BK119.out) hb); have n1_ := Aside0.mk (blk_below (g := gb120) (o := .cells #[.int .i64 a1_0, .int .i64 a1_1, .int .i64 a1_2, .slice A1_3 l1_3.length c1_3] 55 (0, 0)) (by (with_reducible repeat (first | refine blk_drewN ?_ _ | refine blk_drew ?_ | refine blk_alloc ?_ _)); exact BK120.out) hb); have n2_ := Aside0.mk (below_step (by repeat (first | (with_reducible first | exact HB.out | apply below_alloc | apply pw_below_drewN | apply below_drew1 | refine below_set ?_ GE119.out | refine below_set ?_ GE120.out) | exact HB.out)) hb); clear BK119; clear BK120; clear HB; have BK119 := n0_; have BK120 := n1_; have HB := n2_; clear n0_ n1_ n2_; (try clear hb); (try clear hb2); (try clear hk); (try clear hi); have hcz93_0 : w92.cell? ⟨gb120, 0, none⟩ = some (.int .i64 a1_0) := (blk_cell BK120.out 0).trans rfl; have hcz93_1 : w92.cell? ⟨gb120, 1, none⟩ = some (.int .i64 a1_1) := (blk_cell BK120.out 1).trans rfl; have hcz93_2 : w92.cell? ⟨gb120, 2, none⟩ = some (.int .i64 a1_2) := (blk_cell BK120.out 2).trans rfl; have hcz93_3 : w92.cell? ⟨gb120, 3, none⟩ = some (.slice A1_3 l1_3.length c1_3) := (blk_cell BK120.out 3).trans rfl; have hfz93_0 := blk_frozen BK120.out 0; have hfz93_1 := blk_frozen BK120.out 1; have hfz93_2 := blk_frozen BK120.out 2; have hfz93_3 := blk_frozen BK120.out 3))
             have n0_ := Aside0.mk (blk_drew BK119.out)
             have n1_ := Aside0.mk (blk_drew BK120.out)
             have n2_ := Aside0.mk (below_drew1 HB.out)
             clear BK119
             clear BK120
             clear HB
             have BK119 := n0_
             have BK120 := n1_
             have HB := n2_
             clear n0_ n1_ n2_
             refine start_ (n := 26) (S := fun w' => w'.cell? ⟨gb120, 0, none⟩ = some (.int .i64 a1_0) ∧ w'.cell? ⟨gb120, 1, none⟩ = some (.int .i64 a1_1) ∧ w'.cell? ⟨gb120, 2, none⟩ = some (.int .i64 a1_2) ∧ w'.cell? ⟨gb120, 3, none⟩ = some (.slice A1_3 l1_3.length c1_3)) (ds := []) #[false, false, false, false, false, false, false, false, false, false, false, false, false, false, false, false, false, false, false, false, false, false, false, false, false, false] (by kernel_rfl) rfl rfl ⟨(blk_cell BK120.out 0).trans rfl, (blk_cell BK120.out 1).trans rfl, (blk_cell BK120.out 2).trans rfl, (blk_cell BK120.out 3).trans rfl⟩ (fun hHeld => ?_); refine with_tabW spec_progInst.tab19 spec_progInst.bits19 (fun HT_ HW_ => ?_)
             generalize w92.drew = w94 at BK119 BK120 HB hHeld ⊢
             refine pure_ (i := 0) (N := some 76) (v := ?_) (a' := ?_) #[true, false, false, false, false, false, false, false, false, false, false, false, false, false, false, false, false, false, false, false, false, false, false, false, false, false] rfl rfl (any_of HT_.out (by kernel_rfl)) (fun _ _ _ h => h) (Or.inl ⟨by rfl, ?_⟩) ?_ ?_
             rotate_left
             ·intro w'
              go_simp
              with_reducible rfl
             rotate_left
             ·simp only [Act.put, List.setIfInBounds_toArray, List.set_cons_zero, List.set_cons_succ, i64_w, i32_w]
              rfl
             refine take_ (i := 1) (N := some 77) (v := ?_) (a' := ?_) #[true, true, false, false, false, false, false, false, false, false, false, false, false, false, false, false, false, false, false, false, false, false, false, false, false, false] rfl rfl (take_ofW HT_.out HW_.out (by kernel_rfl)) (fun _ _ _ h => h) (Or.inl ⟨by rfl, ?_⟩) hHeld ?_ ?_
             rotate_left
             ·rintro w' ⟨s0, s1, s2, s3⟩
              go_simp
              with_reducible rfl
             rotate_left
             ·simp only [Act.put, List.setIfInBounds_toArray, List.set_cons_zero, List.set_cons_succ, i64_w, i32_w]
              rfl
             refine pure_ (i := 2) (N := some 78) (v := ?_) (a' := ?_) #[true, true, true, false, false, false, false, false, false, false, false, false, false, false, false, false, false, false, false, false, false, false, false, false, false, false] rfl rfl (any_of HT_.out (by kernel_rfl)) (fun _ _ _ h => h) (Or.inl ⟨by rfl, ?_⟩) ?_ ?_
             rotate_left
             ·intro w'
              go_simp
              with_reducible rfl
             rotate_left
             ·simp only [Act.put, List.setIfInBounds_toArray, List.set_cons_zero, List.set_cons_succ, i64_w, i32_w]
              rfl
             refine pure_ (i := 3) (N := some 79) (v := ?_) (a' := ?_) #[true, true, true, true, false, false, false, false, false, false, false, false, false, false, false, false, false, false, false, false, false, false, false, false, false, false] rfl rfl (any_of HT_.out (by kernel_rfl)) (fun _ _ _ h => h) (Or.inl ⟨by rfl, ?_⟩) ?_ ?_
             rotate_left
             ·intro w'
              go_simp
              with_reducible rfl
             rotate_left
             ·simp only [Act.put, List.setIfInBounds_toArray, List.set_cons_zero, List.set_cons_succ, i64_w, i32_w]
              rfl
             refine pure_ (i := 4) (N := some 80) (v := ?_) (a' := ?_) #[true, true, true, true, true, false, false, false, false, false, false, false, false, false, false, false, false, false, false, false, false, false, false, false, false, false] rfl rfl (any_of HT_.out (by kernel_rfl)) (fun _ _ _ h => h) (Or.inl ⟨by rfl, ?_⟩) ?_ ?_
             rotate_left
             ·intro w'
              go_simp
              with_reducible rfl
             rotate_left
             ·simp only [Act.put, List.setIfInBounds_toArray, List.set_cons_zero, List.set_cons_succ, i64_w, i32_w]
              rfl
             refine pure_ (i := 5) (N := some 81) (v := undef) (a' := ?_) #[true, true, true, true, true, true, false, false, false, false, false, false, false, false, false, false, false, false, false, false, false, false, false, false, false, false] rfl rfl (any_of HT_.out (by kernel_rfl)) (fun _ _ _ h => h) (Or.inr ⟨by rfl, rfl⟩) ?_ ?_
             rotate_left
             ·simp only [Act.put, List.setIfInBounds_toArray, List.set_cons_zero, List.set_cons_succ, i64_w, i32_w]
              rfl
             refine pure_ (i := 6) (N := some 82) (v := undef) (a' := ?_) #[true, true, true, true, true, true, true, false, false, false, false, false, false, false, false, false, false, false, false, false, false, false, false, false, false, false] rfl rfl (any_of HT_.out (by kernel_rfl)) (fun _ _ _ h => h) (Or.inr ⟨by rfl, rfl⟩) ?_ ?_
             rotate_left
             ·simp only [Act.put, List.setIfInBounds_toArray, List.set_cons_zero, List.set_cons_succ, i64_w, i32_w]
              rfl
             refine pure_ (i := 7) (N := some 83) (v := undef) (a' := ?_) #[true, true, true, true, true, true, true, true, false, false, false, false, false, false, false, false, false, false, false, false, false, false, false, false, false, false] rfl rfl (any_of HT_.out (by kernel_rfl)) (fun _ _ _ h => h) (Or.inr ⟨by rfl, rfl⟩) ?_ ?_
             rotate_left
             ·simp only [Act.put, List.setIfInBounds_toArray, List.set_cons_zero, List.set_cons_succ, i64_w, i32_w]
              rfl
             refine pure_ (i := 8) (N := some 84) (v := undef) (a' := ?_) #[true, true, true, true, true, true, true, true, true, false, false, false, false, false, false, false, false, false, false, false, false, false, false, false, false, false] rfl rfl (any_of HT_.out (by kernel_rfl)) (fun _ _ _ h => h) (Or.inr ⟨by rfl, rfl⟩) ?_ ?_
             rotate_left
             ·simp only [Act.put, List.setIfInBounds_toArray, List.set_cons_zero, List.set_cons_succ, i64_w, i32_w]
              rfl
             refine pure_ (i := 9) (N := some 85) (v := undef) (a' := ?_) #[true, true, true, true, true, true, true, true, true, true, false, false, false, false, false, false, false, false, false, false, false, false, false, false, false, false] rfl rfl (any_of HT_.out (by kernel_rfl)) (fun _ _ _ h => h) (Or.inr ⟨by rfl, rfl⟩) ?_ ?_
             rotate_left
             ·simp only [Act.put, List.setIfInBounds_toArray, List.set_cons_zero, List.set_cons_succ, i64_w, i32_w]
              rfl
             refine pure_ (i := 10) (N := some 86) (v := undef) (a' := ?_) #[true, true, true, true, true, true, true, true, true, true, true, false, false, false, false, false, false, false, false, false, false, false, false, false, false, false] rfl rfl (any_of HT_.out (by kernel_rfl)) (fun _ _ _ h => h) (Or.inr ⟨by rfl, rfl⟩) ?_ ?_
             rotate_left
             ·simp only [Act.put, List.setIfInBounds_toArray, List.set_cons_zero, List.set_cons_succ, i64_w, i32_w]
              rfl
             refine pure_ (i := 11) (N := some 87) (v := undef) (a' := ?_) #[true, true, true, true, true, true, true, true, true, true, true, true, false, false, false, false, false, false, false, false, false, false, false, false, false, false] rfl rfl (any_of HT_.out (by kernel_rfl)) (fun _ _ _ h => h) (Or.inr ⟨by rfl, rfl⟩) ?_ ?_
             rotate_left
             ·simp only [Act.put, List.setIfInBounds_toArray, List.set_cons_zero, List.set_cons_succ, i64_w, i32_w]
              rfl
             refine pure_ (i := 12) (N := some 88) (v := undef) (a' := ?_) #[true, true, true, true, true, true, true, true, true, true, true, true, true, false, false, false, false, false, false, false, false, false, false, false, false, false] rfl rfl (any_of HT_.out (by kernel_rfl)) (fun _ _ _ h => h) (Or.inr ⟨by rfl, rfl⟩) ?_ ?_
             rotate_left
             ·simp only [Act.put, List.setIfInBounds_toArray, List.set_cons_zero, List.set_cons_succ, i64_w, i32_w]
              rfl
             refine pure_ (i := 13) (N := some 89) (v := undef) (a' := ?_) #[true, true, true, true, true, true, true, true, true, true, true, true, true, true, false, false, false, false, false, false, false, false, false, false, false, false] rfl rfl (any_of HT_.out (by kernel_rfl)) (fun _ _ _ h => h) (Or.inr ⟨by rfl, rfl⟩) ?_ ?_
             rotate_left
             ·simp only [Act.put, List.setIfInBounds_toArray, List.set_cons_zero, List.set_cons_succ, i64_w, i32_w]
              rfl
             refine pure_ (i := 14) (N := some 90) (v := undef) (a' := ?_) #[true, true, true, true, true, true, true, true, true, true, true, true, true, true, true, false, false, false, false, false, false, false, false, false, false, false] rfl rfl (any_of HT_.out (by kernel_rfl)) (fun _ _ _ h => h) (Or.inr ⟨by rfl, rfl⟩) ?_ ?_
             rotate_left
             ·simp only [Act.put, List.setIfInBounds_toArray, List.set_cons_zero, List.set_cons_succ, i64_w, i32_w]
              rfl
             refine pure_ (i := 15) (N := some 91) (v := undef) (a' := ?_) #[true, true, true, true, true, true, true, true, true, true, true, true, true, true, true, true, false, false, false, false, false, false, false, false, false, false] rfl rfl (any_of HT_.out (by kernel_rfl)) (fun _ _ _ h => h) (Or.inr ⟨by rfl, rfl⟩) ?_ ?_
             rotate_left
             ·simp only [Act.put, List.setIfInBounds_toArray, List.set_cons_zero, List.set_cons_succ, i64_w, i32_w]
              rfl
             refine pure_ (i := 16) (N := some 92) (v := undef) (a' := ?_) #[true, true, true, true, true, true, true, true, true, true, true, true, true, true, true, true, true, false, false, false, false, false, false, false, false, false] rfl rfl (any_of HT_.out (by kernel_rfl)) (fun _ _ _ h => h) (Or.inr ⟨by rfl, rfl⟩) ?_ ?_
             rotate_left
             ·simp only [Act.put, List.setIfInBounds_toArray, List.set_cons_zero, List.set_cons_succ, i64_w, i32_w]
              rfl
             refine pure_ (i := 17) (N := some 93) (v := undef) (a' := ?_) #[true, true, true, true, true, true, true, true, true, true, true, true, true, true, true, true, true, true, false, false, false, false, false, false, false, false] rfl rfl (any_of HT_.out (by kernel_rfl)) (fun _ _ _ h => h) (Or.inr ⟨by rfl, rfl⟩) ?_ ?_
             rotate_left
             ·simp only [Act.put, List.setIfInBounds_toArray, List.set_cons_zero, List.set_cons_succ, i64_w, i32_w]
              rfl
             refine pure_ (i := 18) (N := some 94) (v := undef) (a' := ?_) #[true, true, true, true, true, true, true, true, true, true, true, true, true, true, true, true, true, true, true, false, false, false, false, false, false, false] rfl rfl (any_of HT_.out (by kernel_rfl)) (fun _ _ _ h => h) (Or.inr ⟨by rfl, rfl⟩) ?_ ?_
             rotate_left
             ·simp only [Act.put, List.setIfInBounds_toArray, List.set_cons_zero, List.set_cons_succ, i64_w, i32_w]
              rfl
             refine pure_ (i := 19) (N := some 95) (v := undef) (a' := ?_) #[true, true, true, true, true, true, true, true, true, true, true, true, true, true, true, true, true, true, true, true, false, false, false, false, false, false] rfl rfl (any_of HT_.out (by kernel_rfl)) (fun _ _ _ h => h) (Or.inr ⟨by rfl, rfl⟩) ?_ ?_
             rotate_left
             ·simp only [Act.put, List.setIfInBounds_toArray, List.set_cons_zero, List.set_cons_succ, i64_w, i32_w]
              rfl
             refine pure_ (i := 20) (N := some 96) (v := ?_) (a' := ?_) #[true, true, true, true, true, true, true, true, true, true, true, true, true, true, true, true, true, true, true, true, true, false, false, false, false, false] rfl rfl (any_of HT_.out (by kernel_rfl)) (fun _ _ _ h => h) (Or.inl ⟨by rfl, ?_⟩) ?_ ?_
             rotate_left
             ·intro w'
              go_simp
              with_reducible rfl
             rotate_left
             ·simp only [Act.put, List.setIfInBounds_toArray, List.set_cons_zero, List.set_cons_succ, i64_w, i32_w]
              rfl
             refine pure_ (i := 21) (N := some 97) (v := ?_) (a' := ?_) #[true, true, true, true, true, true, true, true, true, true, true, true, true, true, true, true, true, true, true, true, true, true, false, false, false, false] rfl rfl (any_of HT_.out (by kernel_rfl)) (fun _ _ _ h => h) (Or.inl ⟨by rfl, ?_⟩) ?_ ?_
             rotate_left
             ·intro w'
              go_simp
              with_reducible rfl
             rotate_left
             ·simp only [Act.put, List.setIfInBounds_toArray, List.set_cons_zero, List.set_cons_succ, i64_w, i32_w]
              rfl
             refine take_ (i := 22) (N := some 98) (v := ?_) (a' := ?_) #[true, true, true, true, true, true, true, true, true, true, true, true, true, true, true, true, true, true, true, true, true, true, true, false, false, false] rfl rfl (take_ofW HT_.out HW_.out (by kernel_rfl)) (fun _ _ _ h => h) (Or.inl ⟨by rfl, ?_⟩) hHeld ?_ ?_
             rotate_left
             ·rintro w' ⟨s0, s1, s2, s3⟩
              go_simp
              with_reducible rfl
             rotate_left
             ·simp only [Act.put, List.setIfInBounds_toArray, List.set_cons_zero, List.set_cons_succ, i64_w, i32_w]
              rfl
             refine one_ (i := 23) (N := some 99) #[true, true, true, true, true, true, true, true, true, true, true, true, true, true, true, true, true, true, true, true, true, true, true, true, false, false] rfl rfl (one_of HT_.out (by kernel_rfl)) (by decide) (fun K hK => ?_)
             refine goes_ Tryd.func53 (by kernel_rfl) rfl #[.agg #[.int .i64 a1_0, .int .i64 a1_1, .int .i64 a1_2, .slice A1_3 l1_3.length c1_3]] (by rfl) rfl rfl (by (try simp only [List.map_toArray, List.map_cons, List.map_nil]); first | done | rfl | (simp only [List.length_drop, List.length_take]; rfl)) ?_
             with_reducible refine (spec_progRunes.calls kj2 a1_0 a1_1 a1_2 _ _ l1_3 t131 _ ?side1 ?side2 A88.out).mono ?_
             (case side1 => repeat (first | exact (Kd.C_below HR1_3.out HB.out) | (with_reducible refine Kd.C_alloc ?_ _) | (with_reducible refine Kd.C_drewN ?_ _) | (with_reducible refine Kd.C_drew ?_)))
             (case side2 => exact HC1_3.out)
             rintro e w95 ⟨rfl, hb⟩
             refine ⟨_, rfl, ?_⟩
             have n0_ := Aside0.mk (blk_below (g := gb119) (o := .cells #[.slice A0_0 l0_0.length c0_0, .int .i64 a0_1, .int .i64 a0_2] 24 (0, 0)) (by (with_reducible repeat (first | refine blk_drewN ?_ _ | refine blk_drew ?_ | refine blk_alloc ?_ _)); exact BK119.out) hb)
             have n1_ := Aside0.mk (blk_below (g := gb120) (o := .cells #[.int .i64 a1_0, .int .i64 a1_1, .int .i64 a1_2, .slice A1_3 l1_3.length c1_3] 55 (0, 0)) (by (with_reducible repeat (first | refine blk_drewN ?_ _ | refine blk_drew ?_ | refine blk_alloc ?_ _)); exact BK120.out) hb)
             have n2_ := Aside0.mk (below_step (by repeat (first | (with_reducible first | exact HB.out | apply below_alloc | apply pw_below_drewN | apply below_drew1 | refine below_set ?_ GE119.out | refine below_set ?_ GE120.out) | exact HB.out)) hb)
             clear BK119
             clear BK120
             clear HB
             have BK119 := n0_
             have BK120 := n1_
             have HB := n2_
             clear n0_ n1_ n2_
             (try clear hb)
             (try clear hb2)
             (try clear hk)
             (try clear hi)
             refine hK.out _ _ ⟨(blk_cell BK120.out 0).trans rfl, (blk_cell BK120.out 1).trans rfl, (blk_cell BK120.out 2).trans rfl, (blk_cell BK120.out 3).trans rfl⟩ (fun hHeld => ?_)
             clear hK K
             refine norm_ (a' := ?_) ?_ ?_
             rotate_left
             ·show Act.put _ (some 99) _ = _
              simp only [Act.put, List.setIfInBounds_toArray, List.set_cons_zero, List.set_cons_succ, i64_w, i32_w]
              rfl
             refine pure_ (i := 24) (N := some 100) (v := ?_) (a' := ?_) #[true, true, true, true, true, true, true, true, true, true, true, true, true, true, true, true, true, true, true, true, true, true, true, true, true, false] rfl rfl (any_of HT_.out (by kernel_rfl)) (fun _ _ _ h => h) (Or.inl ⟨by rfl, ?_⟩) ?_ ?_
             rotate_left
             ·intro w'
              go_simp
              with_reducible rfl
             rotate_left
             ·simp only [Act.put, List.setIfInBounds_toArray, List.set_cons_zero, List.set_cons_succ, i64_w, i32_w]
              rfl
             refine pure_ (i := 25) (N := some 4) (v := ?_) (a' := ?_) #[true, true, true, true, true, true, true, true, true, true, true, true, true, true, true, true, true, true, true, true, true, true, true, true, true, true] rfl rfl (any_of HT_.out (by kernel_rfl)) (fun _ _ _ h => h) (Or.inl ⟨by rfl, ?_⟩) ?_ ?_
             rotate_left
             ·intro w'
              go_simp
              with_reducible rfl
             rotate_left
             ·simp only [Act.put, List.setIfInBounds_toArray, List.set_cons_zero, List.set_cons_succ, i64_w, i32_w]
              rfl
             refine done_ (done_of HT_.out (by kernel_rfl)) ?_
             try go_wp2
             go_ret
             exact ⟨by first | rfl | (simp [errW_none, errW_some] <;> rfl) | (simp [*, errW_none, errW_some] <;> rfl), by repeat (first | (with_reducible first | exact HB.out | apply below_alloc | apply pw_below_drewN | apply below_drew1 | refine below_set ?_ GE119.out | refine below_set ?_ GE120.out) | exact HB.out)⟩
            ·rw [if_neg c87] at H
             have c87b0 : ((l1_3.length : Int) == 1) = false := beq_eq_false_iff_ne.mpr c87
             have c87b1 : ((l1_3.length : Int) != 1) = true := bne_iff_ne.mpr c87
             by_cases c96 : (l1_3.length : Int) = 2
             ·rw [if_pos c96] at H
              have c96b0 : ((l1_3.length : Int) == 2) = true := beq_iff_eq.mpr c96
              have c96b1 : ((l1_3.length : Int) != 2) = false := bne_eq_false_iff_eq.mpr c96
              clear c96
              by_cases c97 : 0 < (l1_3.length : Int)
              ·rw [if_pos c97] at H
               have c97b0 : decide (0 < (l1_3.length : Int)) = true := decide_eq_true c97
               have c97b1 : decide (0 < l1_3.length) = true := decide_eq_true (by omega)
               clear c97
               by_cases c98 : 1 < (l1_3.length : Int)
               ·rw [if_pos c98] at H
                have c98b0 : decide (1 < (l1_3.length : Int)) = true := decide_eq_true c98
                have c98b1 : decide (1 < l1_3.length) = true := decide_eq_true (by omega)
                clear c98
                by_cases c99 : (rd l1_3 0) = (rd l1_3 1)
                ·rw [if_pos c99] at H
                 have c99b0 : ((rd l1_3 0) == (rd l1_3 1)) = true := beq_iff_eq.mpr c99
                 have c99b1 : ((rd l1_3 0) != (rd l1_3 1)) = false := bne_eq_false_iff_eq.mpr c99
                 clear c99
                 replace H := Option.bind_eq_some_iff.mp H
                 obtain ⟨t134, A1000, H⟩ := H
                 replace H : (some t134) = some r := H
                 have A100 := Aside0.mk A1000
                 clear A1000
                 obtain rfl := Option.some.inj H
                 have hnb101 := NB119_120.out
                 have hnc101 := NB120_119.out
                 have hcz102_0 : wc.cell? ⟨gb119, 0, none⟩ = some (.slice A0_0 l0_0.length c0_0) := (blk_cell BK119.out 0).trans rfl
                 have hcz102_1 : wc.cell? ⟨gb119, 1, none⟩ = some (.int .i64 a0_1) := (blk_cell BK119.out 1).trans rfl
                 have hcz102_2 : wc.cell? ⟨gb119, 2, none⟩ = some (.int .i64 a0_2) := (blk_cell BK119.out 2).trans rfl
                 have hfz102_0 := blk_frozen BK119.out 0
                 have hfz102_1 := blk_frozen BK119.out 1
                 have hfz102_2 := blk_frozen BK119.out 2
                 have hcz103_0 : wc.cell? ⟨gb120, 0, none⟩ = some (.int .i64 a1_0) := (blk_cell BK120.out 0).trans rfl
                 have hcz103_1 : wc.cell? ⟨gb120, 1, none⟩ = some (.int .i64 a1_1) := (blk_cell BK120.out 1).trans rfl
                 have hcz103_2 : wc.cell? ⟨gb120, 2, none⟩ = some (.int .i64 a1_2) := (blk_cell BK120.out 2).trans rfl
                 have hcz103_3 : wc.cell? ⟨gb120, 3, none⟩ = some (.slice A1_3 l1_3.length c1_3) := (blk_cell BK120.out 3).trans rfl
                 have hfz103_0 := blk_frozen BK120.out 0
                 have hfz103_1 := blk_frozen BK120.out 1
                 have hfz103_2 := blk_frozen BK120.out 2
                 have hfz103_3 := blk_frozen BK120.out 3
                 try go_wp2_with (first | ((with_reducible refine gate_callee (f := 35) rfl ?_); refine goesL_ (some 16) rfl rfl Tryd.func35 (by kernel_rfl) rfl #[.agg #[.slice A0_0 l0_0.length c0_0, .int .i64 a0_1, .int .i64 a0_2], .int .i64 a1_1] rfl (by (try simp only [List.map_toArray, List.map_cons, List.map_nil]); first | done | rfl | (simp only [List.length_drop, List.length_take]; rfl)) ?_; (with_reducible refine (spec_progTo.calls _ _ l0_0 a0_1 a0_2 a1_1 true _ ?side1 ?side2 A12.out).mono ?_); (case side1 => repeat (first | exact (Kd.C_below HR0_0.out HB.out) | (with_reducible refine Kd.C_alloc ?_ _) | (with_reducible refine Kd.C_drewN ?_ _) | (with_reducible refine Kd.C_drew ?_))); (case side2 => exact HC0_0.out); rintro e w104 ⟨rfl, hb⟩; refine ⟨_, rfl, ?_⟩; have n0_ := Aside0.mk (blk_below (g := gb119) (o := .cells #[.slice A0_0 l0_0.length c0_0, .int .i64 a0_1, .int .i64 a0_2] 24 (0, 0)) (by (with_reducible repeat (first | refine blk_drewN ?_ _ | refine blk_drew ?_ | refine blk_alloc ?_ _)); exact BK119.out) hb); have n1_ := Aside0.mk (blk_below (g := gb120) (o := .cells #[.int .i64 a1_0, .int .i64 a1_1, .int .i64 a1_2, .slice A1_3 l1_3.length c1_3] 55 (0, 0)) (by (with_reducible repeat (first | refine blk_drewN ?_ _ | refine blk_drew ?_ | refine blk_alloc ?_ _)); exact BK120.out) hb); have n2_ := Aside0.mk (below_step (by repeat (first | (with_reducible first | exact HB.out | apply below_alloc | apply pw_below_drewN | apply below_drew1 | refine below_set ?_ GE119.out | refine below_set ?_ GE120.out) | exact HB.out)) hb); clear BK119; clear BK120; clear HB; have BK119 := n0_; have BK120 := n1_; have HB := n2_; clear n0_ n1_ n2_; (try clear hb); (try clear hb2); (try clear hk); (try clear hi); have hcz105_0 : w104.cell? ⟨gb120, 0, none⟩ = some (.int .i64 a1_0) := (blk_cell BK120.out 0).trans rfl; have hcz105_1 : w104.cell? ⟨gb120, 1, none⟩ = some (.int .i64 a1_1) := (blk_cell BK120.out 1).trans rfl; have hcz105_2 : w104.cell? ⟨gb120, 2, none⟩ = some (.int .i64 a1_2) := (blk_cell BK120.out 2).trans rfl; have hcz105_3 : w104.cell? ⟨gb120, 3, none⟩ = some (.slice A1_3 l1_3.length c1_3) := (blk_cell BK120.out 3).trans rfl; have hfz105_0 := blk_frozen BK120.out 0; have hfz105_1 := blk_frozen BK120.out 1; have hfz105_2 := blk_frozen BK120.out 2; have hfz105_3 := blk_frozen BK120.out 3))
                 have n0_ := Aside0.mk (blk_drew BK119.out)
                 have n1_ := Aside0.mk (blk_drew BK120.out)
                 have n2_ := Aside0.mk (below_drew1 HB.out)
                 clear BK119
                 clear BK120
                 clear HB
                 have BK119 := n0_
                 have BK120 := n1_
                 have HB := n2_
                 clear n0_ n1_ n2_
                 have p132 : 0 ≤ (0 : Int) := (by omega)
                 have q132 : 0 < (l1_3.length : Int) := of_decide_eq_true (by first | (with_reducible assumption) | assumption)
                 obtain ⟨ad132, e132, hx132_0⟩ := Kd.at_int HR1_3.out 0 p132 q132
                 have hw132_0 := hx132_0
                 (try rw [show ((0 : Int)).toNat = 0 from rfl] at hw132_0)
                 (try rw [show 0 * 1 = 0 from rfl] at hw132_0)
                 (try rw [Addr.add_zero'] at hw132_0)
                 cases e132
                 have qi132 : (0 < l1_3.length) = True := eq_true (by omega)
                 (try rw [show ((0 : Int)).toNat = 0 from rfl] at hx132_0)
                 (try rw [Addr.add_zero'] at hx132_0)
                 replace hx132_0 := (HB.out.cell (World.block_lt_of_cell? w _ hx132_0)).trans hx132_0
                 replace p132 := eq_true p132
                 replace q132 := eq_true q132
                 have p133 : 0 ≤ (1 : Int) := (by omega)
                 have q133 : 1 < (l1_3.length : Int) := of_decide_eq_true (by first | (with_reducible assumption) | assumption)
                 obtain ⟨ad133, e133, hx133_0⟩ := Kd.at_int HR1_3.out 1 p133 q133
                 have hw133_0 := hx133_0
                 (try rw [show ((1 : Int)).toNat = 1 from rfl] at hw133_0)
                 (try rw [show 1 * 1 = 1 from rfl] at hw133_0)
                 (try simp only [Nat.reduceMul, Nat.reduceEqDiff, Go.Addr.add, ↓reduceIte] at hw133_0)
                 obtain rfl : ad132 = ad133 := (by injection e133)
                 (try simp only [show (1 : Int).toNat = 1 from rfl, Nat.reduceMul, Nat.reduceEqDiff, Go.Addr.add, ↓reduceIte] at hx133_0)
                 have qi133 : (1 < l1_3.length) = True := eq_true (by omega)
                 (try rw [show ((1 : Int)).toNat = 1 from rfl] at hx133_0)
                 replace hx133_0 := (HB.out.cell (World.block_lt_of_cell? w _ hx133_0)).trans hx133_0
                 replace p133 := eq_true p133
                 replace q133 := eq_true q133
                 refine start_ (n := 26) (S := fun w' => w'.cell? ⟨gb120, 0, none⟩ = some (.int .i64 a1_0) ∧ w'.cell? ⟨gb120, 1, none⟩ = some (.int .i64 a1_1) ∧ w'.cell? ⟨gb120, 2, none⟩ = some (.int .i64 a1_2) ∧ w'.cell? ⟨gb120, 3, none⟩ = some (.slice (some ad132) l1_3.length c1_3) ∧ w'.cell? ad132 = some (.int .i32 (rd l1_3 0)) ∧ w'.cell? ⟨ad132.block, ad132.off + 1, none⟩ = some (.int .i32 (rd l1_3 1))) (ds := []) #[false, false, false, false, false, false, false, false, false, false, false, false, false, false, false, false, false, false, false, false, false, false, false, false, false, false] (by kernel_rfl) rfl rfl ⟨(blk_cell BK120.out 0).trans rfl, (blk_cell BK120.out 1).trans rfl, (blk_cell BK120.out 2).trans rfl, (blk_cell BK120.out 3).trans rfl, ((HB.out.cell (World.block_lt_of_cell? w _ hw132_0)).trans hw132_0), ((HB.out.cell (World.block_lt_of_cell? w _ hw133_0)).trans hw133_0)⟩ (fun hHeld => ?_); refine with_tabW spec_progInst.tab19 spec_progInst.bits19 (fun HT_ HW_ => ?_)
                 generalize w104.drew = w106 at BK119 BK120 HB hx132_0 hx133_0 hHeld ⊢
                 refine pure_ (i := 0) (N := some 76) (v := ?_) (a' := ?_) #[true, false, false, false, false, false, false, false, false, false, false, false, false, false, false, false, false, false, false, false, false, false, false, false, false, false] rfl rfl (any_of HT_.out (by kernel_rfl)) (fun _ _ _ h => h) (Or.inl ⟨by rfl, ?_⟩) ?_ ?_
                 rotate_left
                 ·intro w'
                  go_simp
                  with_reducible rfl
                 rotate_left
                 ·simp only [Act.put, List.setIfInBounds_toArray, List.set_cons_zero, List.set_cons_succ, i64_w, i32_w]
                  rfl
                 refine take_ (i := 1) (N := some 77) (v := ?_) (a' := ?_) #[true, true, false, false, false, false, false, false, false, false, false, false, false, false, false, false, false, false, false, false, false, false, false, false, false, false] rfl rfl (take_ofW HT_.out HW_.out (by kernel_rfl)) (fun _ _ _ h => h) (Or.inl ⟨by rfl, ?_⟩) hHeld ?_ ?_
                 rotate_left
                 ·rintro w' ⟨s0, s1, s2, s3, s4, s5⟩
                  go_simp
                  with_reducible rfl
                 rotate_left
                 ·simp only [Act.put, List.setIfInBounds_toArray, List.set_cons_zero, List.set_cons_succ, i64_w, i32_w]
                  rfl
                 refine pure_ (i := 2) (N := some 78) (v := ?_) (a' := ?_) #[true, true, true, false, false, false, false, false, false, false, false, false, false, false, false, false, false, false, false, false, false, false, false, false, false, false] rfl rfl (any_of HT_.out (by kernel_rfl)) (fun _ _ _ h => h) (Or.inl ⟨by rfl, ?_⟩) ?_ ?_
                 rotate_left
                 ·intro w'
                  go_simp
                  with_reducible rfl
                 rotate_left
                 ·simp only [Act.put, List.setIfInBounds_toArray, List.set_cons_zero, List.set_cons_succ, i64_w, i32_w]
                  rfl
                 refine pure_ (i := 3) (N := some 79) (v := ?_) (a' := ?_) #[true, true, true, true, false, false, false, false, false, false, false, false, false, false, false, false, false, false, false, false, false, false, false, false, false, false] rfl rfl (any_of HT_.out (by kernel_rfl)) (fun _ _ _ h => h) (Or.inl ⟨by rfl, ?_⟩) ?_ ?_
                 rotate_left
                 ·intro w'
                  go_simp
                  with_reducible rfl
                 rotate_left
                 ·simp only [Act.put, List.setIfInBounds_toArray, List.set_cons_zero, List.set_cons_succ, i64_w, i32_w]
                  rfl
                 refine pure_ (i := 4) (N := some 80) (v := ?_) (a' := ?_) #[true, true, true, true, true, false, false, false, false, false, false, false, false, false, false, false, false, false, false, false, false, false, false, false, false, false] rfl rfl (any_of HT_.out (by kernel_rfl)) (fun _ _ _ h => h) (Or.inl ⟨by rfl, ?_⟩) ?_ ?_
                 rotate_left
                 ·intro w'
                  go_simp
                  with_reducible rfl
                 rotate_left
                 ·simp only [Act.put, List.setIfInBounds_toArray, List.set_cons_zero, List.set_cons_succ, i64_w, i32_w]
                  rfl
                 refine pure_ (i := 5) (N := some 81) (v := ?_) (a' := ?_) #[true, true, true, true, true, true, false, false, false, false, false, false, false, false, false, false, false, false, false, false, false, false, false, false, false, false] rfl rfl (any_of HT_.out (by kernel_rfl)) (fun _ _ _ h => h) (Or.inl ⟨by rfl, ?_⟩) ?_ ?_
                 rotate_left
                 ·intro w'
                  go_simp
                  with_reducible rfl
                 rotate_left
                 ·simp only [Act.put, List.setIfInBounds_toArray, List.set_cons_zero, List.set_cons_succ, i64_w, i32_w]
                  rfl
                 refine take_ (i := 6) (N := some 82) (v := ?_) (a' := ?_) #[true, true, true, true, true, true, true, false, false, false, false, false, false, false, false, false, false, false, false, false, false, false, false, false, false, false] rfl rfl (take_ofW HT_.out HW_.out (by kernel_rfl)) (fun _ _ _ h => h) (Or.inl ⟨by rfl, ?_⟩) hHeld ?_ ?_
                 rotate_left
                 ·rintro w' ⟨s0, s1, s2, s3, s4, s5⟩
                  go_simp
                  with_reducible rfl
                 rotate_left
                 ·simp only [Act.put, List.setIfInBounds_toArray, List.set_cons_zero, List.set_cons_succ, i64_w, i32_w]
                  rfl
                 refine pure_ (i := 7) (N := some 83) (v := ?_) (a' := ?_) #[true, true, true, true, true, true, true, true, false, false, false, false, false, false, false, false, false, false, false, false, false, false, false, false, false, false] rfl rfl (any_of HT_.out (by kernel_rfl)) (fun _ _ _ h => h) (Or.inl ⟨by rfl, ?_⟩) ?_ ?_
                 rotate_left
                 ·intro w'
                  go_simp
                  with_reducible rfl
                 rotate_left
                 ·simp only [Act.put, List.setIfInBounds_toArray, List.set_cons_zero, List.set_cons_succ, i64_w, i32_w]
                  rfl
                 refine pure_ (i := 8) (N := some 84) (v := ?_) (a' := ?_) #[true, true, true, true, true, true, true, true, true, false, false, false, false, false, false, false, false, false, false, false, false, false, false, false, false, false] rfl rfl (any_of HT_.out (by kernel_rfl)) (fun _ _ _ h => h) (Or.inl ⟨by rfl, ?_⟩) ?_ ?_
                 rotate_left
                 ·intro w'
                  go_simp
                  with_reducible rfl
                 rotate_left
                 ·simp only [Act.put, List.setIfInBounds_toArray, List.set_cons_zero, List.set_cons_succ, i64_w, i32_w]
                  rfl
                 refine pure_ (i := 9) (N := some 85) (v := ?_) (a' := ?_) #[true, true, true, true, true, true, true, true, true, true, false, false, false, false, false, false, false, false, false, false, false, false, false, false, false, false] rfl rfl (any_of HT_.out (by kernel_rfl)) (fun _ _ _ h => h) (Or.inl ⟨by rfl, ?_⟩) ?_ ?_
                 rotate_left
                 ·intro w'
                  go_simp
                  with_reducible rfl
                 rotate_left
                 ·simp only [Act.put, List.setIfInBounds_toArray, List.set_cons_zero, List.set_cons_succ, i64_w, i32_w]
                  rfl
                 refine pure_ (i := 10) (N := some 86) (v := ?_) (a' := ?_) #[true, true, true, true, true, true, true, true, true, true, true, false, false, false, false, false, false, false, false, false, false, false, false, false, false, false] rfl rfl (any_of HT_.out (by kernel_rfl)) (fun _ _ _ h => h) (Or.inl ⟨by rfl, ?_⟩) ?_ ?_
                 rotate_left
                 ·intro w'
                  go_simp
                  with_reducible rfl
                 rotate_left
                 ·simp only [Act.put, List.setIfInBounds_toArray, List.set_cons_zero, List.set_cons_succ, i64_w, i32_w]
                  rfl
                 refine pure_ (i := 14) (N := some 90) (v := ?_) (a' := ?_) #[true, true, true, true, true, true, true, true, true, true, true, false, false, false, true, false, false, false, false, false, false, false, false, false, false, false] rfl rfl (any_of HT_.out (by kernel_rfl)) (fun _ _ _ h => h) (Or.inl ⟨by rfl, ?_⟩) ?_ ?_
                 rotate_left
                 ·intro w'
                  go_simp
                  with_reducible rfl
                 rotate_left
                 ·simp only [Act.put, List.setIfInBounds_toArray, List.set_cons_zero, List.set_cons_succ, i64_w, i32_w]
                  rfl
                 refine take_ (i := 11) (N := some 87) (v := ?_) (a' := ?_) #[true, true, true, true, true, true, true, true, true, true, true, true, false, false, true, false, false, false, false, false, false, false, false, false, false, false] rfl rfl (take_ofW HT_.out HW_.out (by kernel_rfl)) (fun _ _ _ h => h) (Or.inl ⟨by rfl, ?_⟩) hHeld ?_ ?_
                 rotate_left
                 ·rintro w' ⟨s0, s1, s2, s3, s4, s5⟩
                  go_simp
                  with_reducible rfl
                 rotate_left
                 ·simp only [Act.put, List.setIfInBounds_toArray, List.set_cons_zero, List.set_cons_succ, i64_w, i32_w]
                  rfl
                 refine pure_ (i := 12) (N := some 88) (v := ?_) (a' := ?_) #[true, true, true, true, true, true, true, true, true, true, true, true, true, false, true, false, false, false, false, false, false, false, false, false, false, false] rfl rfl (any_of HT_.out (by kernel_rfl)) (fun _ _ _ h => h) (Or.inl ⟨by rfl, ?_⟩) ?_ ?_
                 rotate_left
                 ·intro w'
                  go_simp
                  with_reducible rfl
                 rotate_left
                 ·simp only [Act.put, List.setIfInBounds_toArray, List.set_cons_zero, List.set_cons_succ, i64_w, i32_w]
                  rfl
                 refine take_ (i := 13) (N := some 89) (v := ?_) (a' := ?_) #[true, true, true, true, true, true, true, true, true, true, true, true, true, true, true, false, false, false, false, false, false, false, false, false, false, false] rfl rfl (take_ofW HT_.out HW_.out (by kernel_rfl)) (fun _ _ _ h => h) (Or.inl ⟨by rfl, ?_⟩) hHeld ?_ ?_
                 rotate_left
                 ·rintro w' ⟨s0, s1, s2, s3, s4, s5⟩
                  go_simp
                  with_reducible rfl
                 rotate_left
                 ·simp only [Act.put, List.setIfInBounds_toArray, List.set_cons_zero, List.set_cons_succ, i64_w, i32_w]
                  rfl
                 refine take_ (i := 15) (N := some 91) (v := ?_) (a' := ?_) #[true, true, true, true, true, true, true, true, true, true, true, true, true, true, true, true, false, false, false, false, false, false, false, false, false, false] rfl rfl (take_ofW HT_.out HW_.out (by kernel_rfl)) (fun _ _ _ h => h) (Or.inl ⟨by rfl, ?_⟩) hHeld ?_ ?_
                 rotate_left
                 ·rintro w' ⟨s0, s1, s2, s3, s4, s5⟩
                  go_simp
                  with_reducible rfl
                 rotate_left
                 ·simp only [Act.put, List.setIfInBounds_toArray, List.set_cons_zero, List.set_cons_succ, i64_w, i32_w]
                  rfl
                 refine pure_ (i := 16) (N := some 92) (v := ?_) (a' := ?_) #[true, true, true, true, true, true, true, true, true, true, true, true, true, true, true, true, true, false, false, false, false, false, false, false, false, false] rfl rfl (any_of HT_.out (by kernel_rfl)) (fun _ _ _ h => h) (Or.inl ⟨by rfl, ?_⟩) ?_ ?_
                 rotate_left
                 ·intro w'
                  go_simp
                  with_reducible rfl
                 rotate_left
                 ·simp only [Act.put, List.setIfInBounds_toArray, List.set_cons_zero, List.set_cons_succ, i64_w, i32_w]
                  rfl
                 refine take_ (i := 17) (N := some 93) (v := ?_) (a' := ?_) #[true, true, true, true, true, true, true, true, true, true, true, true, true, true, true, true, true, true, false, false, false, false, false, false, false, false] rfl rfl (take_ofW HT_.out HW_.out (by kernel_rfl)) (fun _ _ _ h => h) (Or.inl ⟨by rfl, ?_⟩) hHeld ?_ ?_
                 rotate_left
                 ·rintro w' ⟨s0, s1, s2, s3, s4, s5⟩
                  go_simp
                  with_reducible rfl
                 rotate_left
                 ·simp only [Act.put, List.setIfInBounds_toArray, List.set_cons_zero, List.set_cons_succ, i64_w, i32_w]
                  rfl
                 refine pure_ (i := 18) (N := some 94) (v := ?_) (a' := ?_) #[true, true, true, true, true, true, true, true, true, true, true, true, true, true, true, true, true, true, true, false, false, false, false, false, false, false] rfl rfl (any_of HT_.out (by kernel_rfl)) (fun _ _ _ h => h) (Or.inl ⟨by rfl, ?_⟩) ?_ ?_
                 rotate_left
                 ·intro w'
                  go_simp
                  with_reducible rfl
                 rotate_left
                 ·simp only [Act.put, List.setIfInBounds_toArray, List.set_cons_zero, List.set_cons_succ, i64_w, i32_w]
                  rfl
                 refine pure_ (i := 19) (N := some 95) (v := ?_) (a' := ?_) #[true, true, true, true, true, true, true, true, true, true, true, true, true, true, true, true, true, true, true, true, false, false, false, false, false, false] rfl rfl (any_of HT_.out (by kernel_rfl)) (fun _ _ _ h => h) (Or.inl ⟨by rfl, ?_⟩) ?_ ?_
                 rotate_left
                 ·intro w'
                  go_simp
                  with_reducible rfl
                 rotate_left
                 ·simp only [Act.put, List.setIfInBounds_toArray, List.set_cons_zero, List.set_cons_succ, i64_w, i32_w]
                  rfl
                 refine pure_ (i := 20) (N := some 96) (v := ?_) (a' := ?_) #[true, true, true, true, true, true, true, true, true, true, true, true, true, true, true, true, true, true, true, true, true, false, false, false, false, false] rfl rfl (any_of HT_.out (by kernel_rfl)) (fun _ _ _ h => h) (Or.inl ⟨by rfl, ?_⟩) ?_ ?_
                 rotate_left
                 ·intro w'
                  go_simp
                  with_reducible rfl
                 rotate_left
                 ·simp only [Act.put, List.setIfInBounds_toArray, List.set_cons_zero, List.set_cons_succ, i64_w, i32_w]
                  rfl
                 refine pure_ (i := 21) (N := some 97) (v := ?_) (a' := ?_) #[true, true, true, true, true, true, true, true, true, true, true, true, true, true, true, true, true, true, true, true, true, true, false, false, false, false] rfl rfl (any_of HT_.out (by kernel_rfl)) (fun _ _ _ h => h) (Or.inl ⟨by rfl, ?_⟩) ?_ ?_
                 rotate_left
                 ·intro w'
                  go_simp
                  with_reducible rfl
                 rotate_left
                 ·simp only [Act.put, List.setIfInBounds_toArray, List.set_cons_zero, List.set_cons_succ, i64_w, i32_w]
                  rfl
                 refine take_ (i := 22) (N := some 98) (v := ?_) (a' := ?_) #[true, true, true, true, true, true, true, true, true, true, true, true, true, true, true, true, true, true, true, true, true, true, true, false, false, false] rfl rfl (take_ofW HT_.out HW_.out (by kernel_rfl)) (fun _ _ _ h => h) (Or.inl ⟨by rfl, ?_⟩) hHeld ?_ ?_
                 rotate_left
                 ·rintro w' ⟨s0, s1, s2, s3, s4, s5⟩
                  go_simp
                  with_reducible rfl
                 rotate_left
                 ·simp only [Act.put, List.setIfInBounds_toArray, List.set_cons_zero, List.set_cons_succ, i64_w, i32_w]
                  rfl
                 refine one_ (i := 23) (N := some 99) #[true, true, true, true, true, true, true, true, true, true, true, true, true, true, true, true, true, true, true, true, true, true, true, true, false, false] rfl rfl (one_of HT_.out (by kernel_rfl)) (by decide) (fun K hK => ?_)
                 refine goes_ Tryd.func53 (by kernel_rfl) rfl #[.agg #[.int .i64 a1_0, .int .i64 a1_1, .int .i64 a1_2, .slice (some ad132) l1_3.length c1_3]] (by rfl) rfl rfl (by (try simp only [List.map_toArray, List.map_cons, List.map_nil]); first | done | rfl | (simp only [List.length_drop, List.length_take]; rfl)) ?_
                 with_reducible refine (spec_progRunes.calls kj2 a1_0 a1_1 a1_2 _ _ l1_3 t134 _ ?side1 ?side2 A100.out).mono ?_
                 (case side1 => repeat (first | exact (Kd.C_below HR1_3.out HB.out) | (with_reducible refine Kd.C_alloc ?_ _) | (with_reducible refine Kd.C_drewN ?_ _) | (with_reducible refine Kd.C_drew ?_)))
                 (case side2 => exact HC1_3.out)
                 rintro e w107 ⟨rfl, hb⟩
                 refine ⟨_, rfl, ?_⟩
                 have n0_ := Aside0.mk (blk_below (g := gb119) (o := .cells #[.slice A0_0 l0_0.length c0_0, .int .i64 a0_1, .int .i64 a0_2] 24 (0, 0)) (by (with_reducible repeat (first | refine blk_drewN ?_ _ | refine blk_drew ?_ | refine blk_alloc ?_ _)); exact BK119.out) hb)
                 have n1_ := Aside0.mk (blk_below (g := gb120) (o := .cells #[.int .i64 a1_0, .int .i64 a1_1, .int .i64 a1_2, .slice (some ad132) l1_3.length c1_3] 55 (0, 0)) (by (with_reducible repeat (first | refine blk_drewN ?_ _ | refine blk_drew ?_ | refine blk_alloc ?_ _)); exact BK120.out) hb)
                 have n2_ := Aside0.mk (below_step (by repeat (first | (with_reducible first | exact HB.out | apply below_alloc | apply pw_below_drewN | apply below_drew1 | refine below_set ?_ GE119.out | refine below_set ?_ GE120.out) | exact HB.out)) hb)
                 clear BK119
                 clear BK120
                 clear HB
                 have BK119 := n0_
                 have BK120 := n1_
                 have HB := n2_
                 clear n0_ n1_ n2_
                 (try clear hb)
                 (try clear hb2)
                 (try clear hk)
                 (try clear hi)
                 refine hK.out _ _ ⟨(blk_cell BK120.out 0).trans rfl, (blk_cell BK120.out 1).trans rfl, (blk_cell BK120.out 2).trans rfl, (blk_cell BK120.out 3).trans rfl, ((HB.out.cell (World.block_lt_of_cell? w _ hw132_0)).trans hw132_0), ((HB.out.cell (World.block_lt_of_cell? w _ hw133_0)).trans hw133_0)⟩ (fun hHeld => ?_)
                 clear hK K
                 refine norm_ (a' := ?_) ?_ ?_
                 rotate_left
                 ·show Act.put _ (some 99) _ = _
                  simp only [Act.put, List.setIfInBounds_toArray, List.set_cons_zero, List.set_cons_succ, i64_w, i32_w]
                  rfl
                 refine pure_ (i := 24) (N := some 100) (v := ?_) (a' := ?_) #[true, true, true, true, true, true, true, true, true, true, true, true, true, true, true, true, true, true, true, true, true, true, true, true, true, false] rfl rfl (any_of HT_.out (by kernel_rfl)) (fun _ _ _ h => h) (Or.inl ⟨by rfl, ?_⟩) ?_ ?_
                 rotate_left
                 ·intro w'
                  go_simp
                  with_reducible rfl
                 rotate_left
                 ·simp only [Act.put, List.setIfInBounds_toArray, List.set_cons_zero, List.set_cons_succ, i64_w, i32_w]
                  rfl
                 refine pure_ (i := 25) (N := some 4) (v := ?_) (a' := ?_) #[true, true, true, true, true, true, true, true, true, true, true, true, true, true, true, true, true, true, true, true, true, true, true, true, true, true] rfl rfl (any_of HT_.out (by kernel_rfl)) (fun _ _ _ h => h) (Or.inl ⟨by rfl, ?_⟩) ?_ ?_
                 rotate_left
                 ·intro w'
                  go_simp
                  with_reducible rfl
                 rotate_left
                 ·simp only [Act.put, List.setIfInBounds_toArray, List.set_cons_zero, List.set_cons_succ, i64_w, i32_w]
                  rfl
                 refine done_ (done_of HT_.out (by kernel_rfl)) ?_
                 try go_wp2
                 go_ret
                 exact ⟨by first | rfl | (simp [errW_none, errW_some] <;> rfl) | (simp [*, errW_none, errW_some] <;> rfl), by repeat (first | (with_reducible first | exact HB.out | apply below_alloc | apply pw_below_drewN | apply below_drew1 | refine below_set ?_ GE119.out | refine below_set ?_ GE120.out) | exact HB.out)⟩
                ·rw [if_neg c99] at H
                 have c99b0 : ((rd l1_3 0) == (rd l1_3 1)) = false := beq_eq_false_iff_ne.mpr c99
                 have c99b1 : ((rd l1_3 0) != (rd l1_3 1)) = true := bne_iff_ne.mpr c99
                 obtain rfl := Option.some.inj H
                 have hnb108 := NB119_120.out
                 have hnc108 := NB120_119.out
                 have hcz109_0 : wc.cell? ⟨gb119, 0, none⟩ = some (.slice A0_0 l0_0.length c0_0) := (blk_cell BK119.out 0).trans rfl
                 have hcz109_1 : wc.cell? ⟨gb119, 1, none⟩ = some (.int .i64 a0_1) := (blk_cell BK119.out 1).trans rfl
                 have hcz109_2 : wc.cell? ⟨gb119, 2, none⟩ = some (.int .i64 a0_2) := (blk_cell BK119.out 2).trans rfl
                 have hfz109_0 := blk_frozen BK119.out 0
                 have hfz109_1 := blk_frozen BK119.out 1
                 have hfz109_2 := blk_frozen BK119.out 2
                 have hcz110_0 : wc.cell? ⟨gb120, 0, none⟩ = some (.int .i64 a1_0) := (blk_cell BK120.out 0).trans rfl
                 have hcz110_1 : wc.cell? ⟨gb120, 1, none⟩ = some (.int .i64 a1_1) := (blk_cell BK120.out 1).trans rfl
                 have hcz110_2 : wc.cell? ⟨gb120, 2, none⟩ = some (.int .i64 a1_2) := (blk_cell BK120.out 2).trans rfl
                 have hcz110_3 : wc.cell? ⟨gb120, 3, none⟩ = some (.slice A1_3 l1_3.length c1_3) := (blk_cell BK120.out 3).trans rfl
                 have hfz110_0 := blk_frozen BK120.out 0
                 have hfz110_1 := blk_frozen BK120.out 1
                 have hfz110_2 := blk_frozen BK120.out 2
                 have hfz110_3 := blk_frozen BK120.out 3
                 try go_wp2_with (first | ((with_reducible refine gate_callee (f := 35) rfl ?_); refine goesL_ (some 16) rfl rfl Tryd.func35 (by kernel_rfl) rfl #[.agg #[.slice A0_0 l0_0.length c0_0, .int .i64 a0_1, .int .i64 a0_2], .int .i64 a1_1] rfl (by (try simp only [List.map_toArray, List.map_cons, List.map_nil]); first | done | rfl | (simp only [List.length_drop, List.length_take]; rfl)) ?_; (with_reducible refine (spec_progTo.calls _ _ l0_0 a0_1 a0_2 a1_1 true _ ?side1 ?side2 A12.out).mono ?_); (case side1 => repeat (first | exact (Kd.C_below HR0_0.out HB.out) | (with_reducible refine Kd.C_alloc ?_ _) | (with_reducible refine Kd.C_drewN ?_ _) | (with_reducible refine Kd.C_drew ?_))); (case side2 => exact HC0_0.out); rintro e w111 ⟨rfl, hb⟩; refine ⟨_, rfl, ?_⟩; have n0_ := Aside0.mk (blk_below (g := gb119) (o := .cells #[.slice A0_0 l0_0.length c0_0, .int .i64 a0_1, .int .i64 a0_2] 24 (0, 0)) (by (with_reducible repeat (first | refine blk_drewN ?_ _ | refine blk_drew ?_ | refine blk_alloc ?_ _)); exact BK119.out) hb); have n1_ := Aside0.mk (blk_below (g := gb120) (o := .cells #[.int .i64 a1_0, .int .i64 a1_1, .int .i64 a1_2, .slice A1_3 l1_3.length c1_3] 55 (0, 0)) (by (with_reducible repeat (first | refine blk_drewN ?_ _ | refine blk_drew ?_ | refine blk_alloc ?_ _)); exact BK120.out) hb); have n2_ := Aside0.mk (below_step (by repeat (first | (with_reducible first | exact HB.out | apply below_alloc | apply pw_below_drewN | apply below_drew1 | refine below_set ?_ GE119.out | refine below_set ?_ GE120.out) | exact HB.out)) hb); clear BK119; clear BK120; clear HB; have BK119 := n0_; have BK120 := n1_; have HB := n2_; clear n0_ n1_ n2_; (try clear hb); (try clear hb2); (try clear hk); (try clear hi); have hcz112_0 : w111.cell? ⟨gb120, 0, none⟩ = some (.int .i64 a1_0) := (blk_cell BK120.out 0).trans rfl; have hcz112_1 : w111.cell? ⟨gb120, 1, none⟩ = some (.int .i64 a1_1) := (blk_cell BK120.out 1).trans rfl; have hcz112_2 : w111.cell? ⟨gb120, 2, none⟩ = some (.int .i64 a1_2) := (blk_cell BK120.out 2).trans rfl; have hcz112_3 : w111.cell? ⟨gb120, 3, none⟩ = some (.slice A1_3 l1_3.length c1_3) := (blk_cell BK120.out 3).trans rfl; have hfz112_0 := blk_frozen BK120.out 0; have hfz112_1 := blk_frozen BK120.out 1; have hfz112_2 := blk_frozen BK120.out 2; have hfz112_3 := blk_frozen BK120.out 3))
                 have n0_ := Aside0.mk (blk_drew BK119.out)
                 have n1_ := Aside0.mk (blk_drew BK120.out)
                 have n2_ := Aside0.mk (below_drew1 HB.out)
                 clear BK119
                 clear BK120
                 clear HB
                 have BK119 := n0_
                 have BK120 := n1_
                 have HB := n2_
                 clear n0_ n1_ n2_
                 have p132 : 0 ≤ (0 : Int) := (by omega)
                 have q132 : 0 < (l1_3.length : Int) := of_decide_eq_true (by first | (with_reducible assumption) | assumption)
                 obtain ⟨ad132, e132, hx132_0⟩ := Kd.at_int HR1_3.out 0 p132 q132
                 have hw132_0 := hx132_0
                 (try rw [show ((0 : Int)).toNat = 0 from rfl] at hw132_0)
                 (try rw [show 0 * 1 = 0 from rfl] at hw132_0)
                 (try rw [Addr.add_zero'] at hw132_0)
                 cases e132
                 have qi132 : (0 < l1_3.length) = True := eq_true (by omega)
                 (try rw [show ((0 : Int)).toNat = 0 from rfl] at hx132_0)
                 (try rw [Addr.add_zero'] at hx132_0)
                 replace hx132_0 := (HB.out.cell (World.block_lt_of_cell? w _ hx132_0)).trans hx132_0
                 replace p132 := eq_true p132
                 replace q132 := eq_true q132
                 have p133 : 0 ≤ (1 : Int) := (by omega)
                 have q133 : 1 < (l1_3.length : Int) := of_decide_eq_true (by first | (with_reducible assumption) | assumption)
                 obtain ⟨ad133, e133, hx133_0⟩ := Kd.at_int HR1_3.out 1 p133 q133
                 have hw133_0 := hx133_0
                 (try rw [show ((1 : Int)).toNat = 1 from rfl] at hw133_0)
                 (try rw [show 1 * 1 = 1 from rfl] at hw133_0)
                 (try simp only [Nat.reduceMul, Nat.reduceEqDiff, Go.Addr.add, ↓reduceIte] at hw133_0)
                 obtain rfl : ad132 = ad133 := (by injection e133)
                 (try simp only [show (1 : Int).toNat = 1 from rfl, Nat.reduceMul, Nat.reduceEqDiff, Go.Addr.add, ↓reduceIte] at hx133_0)
                 have qi133 : (1 < l1_3.length) = True := eq_true (by omega)
                 (try rw [show ((1 : Int)).toNat = 1 from rfl] at hx133_0)
                 replace hx133_0 := (HB.out.cell (World.block_lt_of_cell? w _ hx133_0)).trans hx133_0
                 replace p133 := eq_true p133
                 replace q133 := eq_true q133
                 refine start_ (n := 26) (S := fun w' => w'.cell? ⟨gb120, 0, none⟩ = some (.int .i64 a1_0) ∧ w'.cell? ⟨gb120, 1, none⟩ = some (.int .i64 a1_1) ∧ w'.cell? ⟨gb120, 2, none⟩ = some (.int .i64 a1_2) ∧ w'.cell? ⟨gb120, 3, none⟩ = some (.slice (some ad132) l1_3.length c1_3) ∧ w'.cell? ad132 = some (.int .i32 (rd l1_3 0)) ∧ w'.cell? ⟨ad132.block, ad132.off + 1, none⟩ = some (.int .i32 (rd l1_3 1))) (ds := []) #[false, false, false, false, false, false, false, false, false, false, false, false, false, false, false, false, false, false, false, false, false, false, false, false, false, false] (by kernel_rfl) rfl rfl ⟨(blk_cell BK120.out 0).trans rfl, (blk_cell BK120.out 1).trans rfl, (blk_cell BK120.out 2).trans rfl, (blk_cell BK120.out 3).trans rfl, ((HB.out.cell (World.block_lt_of_cell? w _ hw132_0)).trans hw132_0), ((HB.out.cell (World.block_lt_of_cell? w _ hw133_0)).trans hw133_0)⟩ (fun hHeld => ?_); refine with_tabW spec_progInst.tab19 spec_progInst.bits19 (fun HT_ HW_ => ?_)
                 generalize w111.drew = w113 at BK119 BK120 HB hx132_0 hx133_0 hHeld ⊢
                 refine pure_ (i := 0) (N := some 76) (v := ?_) (a' := ?_) #[true, false, false, false, false, false, false, false, false, false, false, false, false, false, false, false, false, false, false, false, false, false, false, false, false, false] rfl rfl (any_of HT_.out (by kernel_rfl)) (fun _ _ _ h => h) (Or.inl ⟨by rfl, ?_⟩) ?_ ?_
                 rotate_left
                 ·intro w'
                  go_simp
                  with_reducible rfl
                 rotate_left
                 ·simp only [Act.put, List.setIfInBounds_toArray, List.set_cons_zero, List.set_cons_succ, i64_w, i32_w]
                  rfl
                 refine take_ (i := 1) (N := some 77) (v := ?_) (a' := ?_) #[true, true, false, false, false, false, false, false, false, false, false, false, false, false, false, false, false, false, false, false, false, false, false, false, false, false] rfl rfl (take_ofW HT_.out HW_.out (by kernel_rfl)) (fun _ _ _ h => h) (Or.inl ⟨by rfl, ?_⟩) hHeld ?_ ?_
                 rotate_left
                 ·rintro w' ⟨s0, s1, s2, s3, s4, s5⟩
                  go_simp
                  with_reducible rfl
                 rotate_left
                 ·simp only [Act.put, List.setIfInBounds_toArray, List.set_cons_zero, List.set_cons_succ, i64_w, i32_w]
                  rfl
                 refine pure_ (i := 2) (N := some 78) (v := ?_) (a' := ?_) #[true, true, true, false, false, false, false, false, false, false, false, false, false, false, false, false, false, false, false, false, false, false, false, false, false, false] rfl rfl (any_of HT_.out (by kernel_rfl)) (fun _ _ _ h => h) (Or.inl ⟨by rfl, ?_⟩) ?_ ?_
                 rotate_left
                 ·intro w'
                  go_simp
                  with_reducible rfl
                 rotate_left
                 ·simp only [Act.put, List.setIfInBounds_toArray, List.set_cons_zero, List.set_cons_succ, i64_w, i32_w]
                  rfl
                 refine pure_ (i := 3) (N := some 79) (v := ?_) (a' := ?_) #[true, true, true, true, false, false, false, false, false, false, false, false, false, false, false, false, false, false, false, false, false, false, false, false, false, false] rfl rfl (any_of HT_.out (by kernel_rfl)) (fun _ _ _ h => h) (Or.inl ⟨by rfl, ?_⟩) ?_ ?_
                 rotate_left
                 ·intro w'
                  go_simp
                  with_reducible rfl
                 rotate_left
                 ·simp only [Act.put, List.setIfInBounds_toArray, List.set_cons_zero, List.set_cons_succ, i64_w, i32_w]
                  rfl
                 refine pure_ (i := 4) (N := some 80) (v := ?_) (a' := ?_) #[true, true, true, true, true, false, false, false, false, false, false, false, false, false, false, false, false, false, false, false, false, false, false, false, false, false] rfl rfl (any_of HT_.out (by kernel_rfl)) (fun _ _ _ h => h) (Or.inl ⟨by rfl, ?_⟩) ?_ ?_
                 rotate_left
                 ·intro w'
                  go_simp
                  with_reducible rfl
                 rotate_left
                 ·simp only [Act.put, List.setIfInBounds_toArray, List.set_cons_zero, List.set_cons_succ, i64_w, i32_w]
                  rfl
                 refine pure_ (i := 5) (N := some 81) (v := ?_) (a' := ?_) #[true, true, true, true, true, true, false, false, false, false, false, false, false, false, false, false, false, false, false, false, false, false, false, false, false, false] rfl rfl (any_of HT_.out (by kernel_rfl)) (fun _ _ _ h => h) (Or.inl ⟨by rfl, ?_⟩) ?_ ?_
                 rotate_left
                 ·intro w'
                  go_simp
                  with_reducible rfl
                 rotate_left
                 ·simp only [Act.put, List.setIfInBounds_toArray, List.set_cons_zero, List.set_cons_succ, i64_w, i32_w]
                  rfl
                 refine take_ (i := 6) (N := some 82) (v := ?_) (a' := ?_) #[true, true, true, true, true, true, true, false, false, false, false, false, false, false, false, false, false, false, false, false, false, false, false, false, false, false] rfl rfl (take_ofW HT_.out HW_.out (by kernel_rfl)) (fun _ _ _ h => h) (Or.inl ⟨by rfl, ?_⟩) hHeld ?_ ?_
                 rotate_left
                 ·rintro w' ⟨s0, s1, s2, s3, s4, s5⟩
                  go_simp
                  with_reducible rfl
                 rotate_left
                 ·simp only [Act.put, List.setIfInBounds_toArray, List.set_cons_zero, List.set_cons_succ, i64_w, i32_w]
                  rfl
                 refine pure_ (i := 7) (N := some 83) (v := ?_) (a' := ?_) #[true, true, true, true, true, true, true, true, false, false, false, false, false, false, false, false, false, false, false, false, false, false, false, false, false, false] rfl rfl (any_of HT_.out (by kernel_rfl)) (fun _ _ _ h => h) (Or.inl ⟨by rfl, ?_⟩) ?_ ?_
                 rotate_left
                 ·intro w'
                  go_simp
                  with_reducible rfl
                 rotate_left
                 ·simp only [Act.put, List.setIfInBounds_toArray, List.set_cons_zero, List.set_cons_succ, i64_w, i32_w]
                  rfl
                 refine pure_ (i := 8) (N := some 84) (v := ?_) (a' := ?_) #[true, true, true, true, true, true, true, true, true, false, false, false, false, false, false, false, false, false, false, false, false, false, false, false, false, false] rfl rfl (any_of HT_.out (by kernel_rfl)) (fun _ _ _ h => h) (Or.inl ⟨by rfl, ?_⟩) ?_ ?_
                 rotate_left
                 ·intro w'
                  go_simp
                  with_reducible rfl
                 rotate_left
                 ·simp only [Act.put, List.setIfInBounds_toArray, List.set_cons_zero, List.set_cons_succ, i64_w, i32_w]
                  rfl
                 refine pure_ (i := 9) (N := some 85) (v := ?_) (a' := ?_) #[true, true, true, true, true, true, true, true, true, true, false, false, false, false, false, false, false, false, false, false, false, false, false, false, false, false] rfl rfl (any_of HT_.out (by kernel_rfl)) (fun _ _ _ h => h) (Or.inl ⟨by rfl, ?_⟩) ?_ ?_
                 rotate_left
                 ·intro w'
                  go_simp
                  with_reducible rfl
                 rotate_left
                 ·simp only [Act.put, List.setIfInBounds_toArray, List.set_cons_zero, List.set_cons_succ, i64_w, i32_w]
                  rfl
                 refine pure_ (i := 10) (N := some 86) (v := ?_) (a' := ?_) #[true, true, true, true, true, true, true, true, true, true, true, false, false, false, false, false, false, false, false, false, false, false, false, false, false, false] rfl rfl (any_of HT_.out (by kernel_rfl)) (fun _ _ _ h => h) (Or.inl ⟨by rfl, ?_⟩) ?_ ?_
                 rotate_left
                 ·intro w'
                  go_simp
                  with_reducible rfl
                 rotate_left
                 ·simp only [Act.put, List.setIfInBounds_toArray, List.set_cons_zero, List.set_cons_succ, i64_w, i32_w]
                  rfl
                 refine pure_ (i := 14) (N := some 90) (v := ?_) (a' := ?_) #[true, true, true, true, true, true, true, true, true, true, true, false, false, false, true, false, false, false, false, false, false, false, false, false, false, false] rfl rfl (any_of HT_.out (by kernel_rfl)) (fun _ _ _ h => h) (Or.inl ⟨by rfl, ?_⟩) ?_ ?_
                 rotate_left
                 ·intro w'
                  go_simp
                  with_reducible rfl
                 rotate_left
                 ·simp only [Act.put, List.setIfInBounds_toArray, List.set_cons_zero, List.set_cons_succ, i64_w, i32_w]
                  rfl
                 refine take_ (i := 11) (N := some 87) (v := ?_) (a' := ?_) #[true, true, true, true, true, true, true, true, true, true, true, true, false, false, true, false, false, false, false, false, false, false, false, false, false, false] rfl rfl (take_ofW HT_.out HW_.out (by kernel_rfl)) (fun _ _ _ h => h) (Or.inl ⟨by rfl, ?_⟩) hHeld ?_ ?_
                 rotate_left
                 ·rintro w' ⟨s0, s1, s2, s3, s4, s5⟩
                  go_simp
                  with_reducible rfl
                 rotate_left
                 ·simp only [Act.put, List.setIfInBounds_toArray, List.set_cons_zero, List.set_cons_succ, i64_w, i32_w]
                  rfl
                 refine pure_ (i := 12) (N := some 88) (v := ?_) (a' := ?_) #[true, true, true, true, true, true, true, true, true, true, true, true, true, false, true, false, false, false, false, false, false, false, false, false, false, false] rfl rfl (any_of HT_.out (by kernel_rfl)) (fun _ _ _ h => h) (Or.inl ⟨by rfl, ?_⟩) ?_ ?_
                 rotate_left
                 ·intro w'
                  go_simp
                  with_reducible rfl
                 rotate_left
                 ·simp only [Act.put, List.setIfInBounds_toArray, List.set_cons_zero, List.set_cons_succ, i64_w, i32_w]
                  rfl
                 refine take_ (i := 13) (N := some 89) (v := ?_) (a' := ?_) #[true, true, true, true, true, true, true, true, true, true, true, true, true, true, true, false, false, false, false, false, false, false, false, false, false, false] rfl rfl (take_ofW HT_.out HW_.out (by kernel_rfl)) (fun _ _ _ h => h) (Or.inl ⟨by rfl, ?_⟩) hHeld ?_ ?_
                 rotate_left
                 ·rintro w' ⟨s0, s1, s2, s3, s4, s5⟩
                  go_simp
                  with_reducible rfl
                 rotate_left
                 ·simp only [Act.put, List.setIfInBounds_toArray, List.set_cons_zero, List.set_cons_succ, i64_w, i32_w]
                  rfl
                 refine take_ (i := 15) (N := some 91) (v := ?_) (a' := ?_) #[true, true, true, true, true, true, true, true, true, true, true, true, true, true, true, true, false, false, false, false, false, false, false, false, false, false] rfl rfl (take_ofW HT_.out HW_.out (by kernel_rfl)) (fun _ _ _ h => h) (Or.inl ⟨by rfl, ?_⟩) hHeld ?_ ?_
                 rotate_left
                 ·rintro w' ⟨s0, s1, s2, s3, s4, s5⟩
                  go_simp
                  with_reducible rfl
                 rotate_left
                 ·simp only [Act.put, List.setIfInBounds_toArray, List.set_cons_zero, List.set_cons_succ, i64_w, i32_w]
                  rfl
                 refine pure_ (i := 16) (N := some 92) (v := ?_) (a' := ?_) #[true, true, true, true, true, true, true, true, true, true, true, true, true, true, true, true, true, false, false, false, false, false, false, false, false, false] rfl rfl (any_of HT_.out (by kernel_rfl)) (fun _ _ _ h => h) (Or.inl ⟨by rfl, ?_⟩) ?_ ?_
                 rotate_left
                 ·intro w'
                  go_simp
                  with_reducible rfl
                 rotate_left
                 ·simp only [Act.put, List.setIfInBounds_toArray, List.set_cons_zero, List.set_cons_succ, i64_w, i32_w]
                  rfl
                 refine take_ (i := 17) (N := some 93) (v := ?_) (a' := ?_) #[true, true, true, true, true, true, true, true, true, true, true, true, true, true, true, true, true, true, false, false, false, false, false, false, false, false] rfl rfl (take_ofW HT_.out HW_.out (by kernel_rfl)) (fun _ _ _ h => h) (Or.inl ⟨by rfl, ?_⟩) hHeld ?_ ?_
                 rotate_left
                 ·rintro w' ⟨s0, s1, s2, s3, s4, s5⟩
                  go_simp
                  with_reducible rfl
                 rotate_left
                 ·simp only [Act.put, List.setIfInBounds_toArray, List.set_cons_zero, List.set_cons_succ, i64_w, i32_w]
                  rfl
                 refine pure_ (i := 18) (N := some 94) (v := ?_) (a' := ?_) #[true, true, true, true, true, true, true, true, true, true, true, true, true, true, true, true, true, true, true, false, false, false, false, false, false, false] rfl rfl (any_of HT_.out (by kernel_rfl)) (fun _ _ _ h => h) (Or.inl ⟨by rfl, ?_⟩) ?_ ?_
                 rotate_left
                 ·intro w'
                  go_simp
                  with_reducible rfl
                 rotate_left
                 ·simp only [Act.put, List.setIfInBounds_toArray, List.set_cons_zero, List.set_cons_succ, i64_w, i32_w]
                  rfl
                 refine pure_ (i := 19) (N := some 95) (v := ?_) (a' := ?_) #[true, true, true, true, true, true, true, true, true, true, true, true, true, true, true, true, true, true, true, true, false, false, false, false, false, false] rfl rfl (any_of HT_.out (by kernel_rfl)) (fun _ _ _ h => h) (Or.inl ⟨by rfl, ?_⟩) ?_ ?_
                 rotate_left
                 ·intro w'
                  go_simp
                  with_reducible rfl
                 rotate_left
                 ·simp only [Act.put, List.setIfInBounds_toArray, List.set_cons_zero, List.set_cons_succ, i64_w, i32_w]
                  rfl
                 refine pure_ (i := 20) (N := some 96) (v := ?_) (a' := ?_) #[true, true, true, true, true, true, true, true, true, true, true, true, true, true, true, true, true, true, true, true, true, false, false, false, false, false] rfl rfl (any_of HT_.out (by kernel_rfl)) (fun _ _ _ h => h) (Or.inl ⟨by rfl, ?_⟩) ?_ ?_
                 rotate_left
                 ·intro w'
                  go_simp
                  with_reducible rfl
                 rotate_left
                 ·simp only [Act.put, List.setIfInBounds_toArray, List.set_cons_zero, List.set_cons_succ, i64_w, i32_w]
                  rfl
                 refine pure_ (i := 21) (N := some 97) (v := ?_) (a' := ?_) #[true, true, true, true, true, true, true, true, true, true, true, true, true, true, true, true, true, true, true, true, true, true, false, false, false, false] rfl rfl (any_of HT_.out (by kernel_rfl)) (fun _ _ _ h => h) (Or.inl ⟨by rfl, ?_⟩) ?_ ?_
                 rotate_left
                 ·intro w'
                  go_simp
                  with_reducible rfl
                 rotate_left
                 ·simp only [Act.put, List.setIfInBounds_toArray, List.set_cons_zero, List.set_cons_succ, i64_w, i32_w]
                  rfl
                 refine pure_ (i := 22) (N := some 98) (v := undef) (a' := ?_) #[true, true, true, true, true, true, true, true, true, true, true, true, true, true, true, true, true, true, true, true, true, true, true, false, false, false] rfl rfl (any_of HT_.out (by kernel_rfl)) (fun _ _ _ h => h) (Or.inr ⟨by rfl, rfl⟩) ?_ ?_
                 rotate_left
                 ·simp only [Act.put, List.setIfInBounds_toArray, List.set_cons_zero, List.set_cons_succ, i64_w, i32_w]
                  rfl
                 refine pure_ (i := 23) (N := some 99) (v := undef) (a' := ?_) #[true, true, true, true, true, true, true, true, true, true, true, true, true, true, true, true, true, true, true, true, true, true, true, true, false, false] rfl rfl (any_of HT_.out (by kernel_rfl)) (fun _ _ _ h => h) (Or.inr ⟨by rfl, rfl⟩) ?_ ?_
                 rotate_left
                 ·simp only [Act.put, List.setIfInBounds_toArray, List.set_cons_zero, List.set_cons_succ, i64_w, i32_w]
                  rfl
                 refine pure_ (i := 24) (N := some 100) (v := ?_) (a' := ?_) #[true, true, true, true, true, true, true, true, true, true, true, true, true, true, true, true, true, true, true, true, true, true, true, true, true, false] rfl rfl (any_of HT_.out (by kernel_rfl)) (fun _ _ _ h => h) (Or.inl ⟨by rfl, ?_⟩) ?_ ?_
                 rotate_left
                 ·intro w'
                  go_simp
                  with_reducible rfl
                 rotate_left
                 ·simp only [Act.put, List.setIfInBounds_toArray, List.set_cons_zero, List.set_cons_succ, i64_w, i32_w]
                  rfl
                 refine pure_ (i := 25) (N := some 4) (v := ?_) (a' := ?_) #[true, true, true, true, true, true, true, true, true, true, true, true, true, true, true, true, true, true, true, true, true, true, true, true, true, true] rfl rfl (any_of HT_.out (by kernel_rfl)) (fun _ _ _ h => h) (Or.inl ⟨by rfl, ?_⟩) ?_ ?_
                 rotate_left
                 ·intro w'
                  go_simp
                  with_reducible rfl
                 rotate_left
                 ·simp only [Act.put, List.setIfInBounds_toArray, List.set_cons_zero, List.set_cons_succ, i64_w, i32_w]
                  rfl
                 refine done_ (done_of HT_.out (by kernel_rfl)) ?_
                 try go_wp2
                 go_ret
                 exact ⟨by first | rfl | (simp [errW_none, errW_some] <;> rfl) | (simp [*, errW_none, errW_some] <;> rfl), by repeat (first | (with_reducible first | exact HB.out | apply below_alloc | apply pw_below_drewN | apply below_drew1 | refine below_set ?_ GE119.out | refine below_set ?_ GE120.out) | exact HB.out)⟩
               ·rw [if_neg c98] at H
                exact absurd H (by simp)
              ·rw [if_neg c97] at H
               exact absurd H (by simp)
             ·rw [if_neg c96] at H
              have c96b0 : ((l1_3.length : Int) == 2) = false := beq_eq_false_iff_ne.mpr c96
              have c96b1 : ((l1_3.length : Int) != 2) = true := bne_iff_ne.mpr c96
              obtain rfl := Option.some.inj H
              have hnb114 := NB119_120.out
              have hnc114 := NB120_119.out
              have hcz115_0 : wc.cell? ⟨gb119, 0, none⟩ = some (.slice A0_0 l0_0.length c0_0) := (blk_cell BK119.out 0).trans rfl
              have hcz115_1 : wc.cell? ⟨gb119, 1, none⟩ = some (.int .i64 a0_1) := (blk_cell BK119.out 1).trans rfl
              have hcz115_2 : wc.cell? ⟨gb119, 2, none⟩ = some (.int .i64 a0_2) := (blk_cell BK119.out 2).trans rfl
              have hfz115_0 := blk_frozen BK119.out 0
              have hfz115_1 := blk_frozen BK119.out 1
              have hfz115_2 := blk_frozen BK119.out 2
              have hcz116_0 : wc.cell? ⟨gb120, 0, none⟩ = some (.int .i64 a1_0) := (blk_cell BK120.out 0).trans rfl
              have hcz116_1 : wc.cell? ⟨gb120, 1, none⟩ = some (.int .i64 a1_1) := (blk_cell BK120.out 1).trans rfl
              have hcz116_2 : wc.cell? ⟨gb120, 2, none⟩ = some (.int .i64 a1_2) := (blk_cell BK120.out 2).trans rfl
              have hcz116_3 : wc.cell? ⟨gb120, 3, none⟩ = some (.slice A1_3 l1_3.length c1_3) := (blk_cell BK120.out 3).trans rfl
              have hfz116_0 := blk_frozen BK120.out 0
              have hfz116_1 := blk_frozen BK120.out 1
              have hfz116_2 := blk_frozen BK120.out 2
              have hfz116_3 := blk_frozen BK120.out 3
              try go_wp2_with (first | ((with_reducible refine gate_callee (f := 35) rfl ?_); refine goesL_ (some 16) rfl rfl Tryd.func35 (by kernel_rfl) rfl #[.agg #[.slice A0_0 l0_0.length c0_0, .int .i64 a0_1, .int .i64 a0_2], .int .i64 a1_1] rfl (by (try simp only [List.map_toArray, List.map_cons, List.map_nil]); first | done | rfl | (simp only [List.length_drop, List.length_take]; rfl)) ?_; (with_reducible refine (spec_progTo.calls _ _ l0_0 a0_1 a0_2 a1_1 true _ ?side1 ?side2 A12.out).mono ?_); (case side1 => repeat (first | exact (Kd.C_below HR0_0.out HB.out) | (with_reducible refine Kd.C_alloc ?_ _) | (with_reducible refine Kd.C_drewN ?_ _) | (with_reducible refine Kd.C_drew ?_))); (case side2 => exact HC0_0.out); rintro e w117 ⟨rfl, hb⟩; refine ⟨_, rfl, ?_⟩; have n0_ := Aside0.mk (blk_below (g := gb119) (o := .cells #[.slice A0_0 l0_0.length c0_0, .int .i64 a0_1, .int .i64 a0_2] 24 (0, 0)) (by (with_reducible repeat (first | refine blk_drewN ?_ _ | refine blk_drew ?_ | refine blk_alloc ?_ _)); exact BK119.out) hb); have n1_ := Aside0.mk (blk_below (g := gb120) (o := .cells #[.int .i64 a1_0, .int .i64 a1_1, .int .i64 a1_2, .slice A1_3 l1_3.length c1_3] 55 (0, 0)) (by (with_reducible repeat (first | refine blk_drewN ?_ _ | refine blk_drew ?_ | refine blk_alloc ?_ _)); exact BK120.out) hb); have n2_ := Aside0.mk (below_step (by repeat (first | (with_reducible first | exact HB.out | apply below_alloc | apply pw_below_drewN | apply below_drew1 | refine below_set ?_ GE119.out | refine below_set ?_ GE120.out) | exact HB.out)) hb); clear BK119; clear BK120; clear HB; have BK119 := n0_; have BK120 := n1_; have HB := n2_; clear n0_ n1_ n2_; (try clear hb); (try clear hb2); (try clear hk); (try clear hi); have hcz118_0 : w117.cell? ⟨gb120, 0, none⟩ = some (.int .i64 a1_0) := (blk_cell BK120.out 0).trans rfl; have hcz118_1 : w117.cell? ⟨gb120, 1, none⟩ = some (.int .i64 a1_1) := (blk_cell BK120.out 1).trans rfl; have hcz118_2 : w117.cell? ⟨gb120, 2, none⟩ = some (.int .i64 a1_2) := (blk_cell BK120.out 2).trans rfl; have hcz118_3 : w117.cell? ⟨gb120, 3, none⟩ = some (.slice A1_3 l1_3.length c1_3) := (blk_cell BK120.out 3).trans rfl; have hfz118_0 := blk_frozen BK120.out 0; have hfz118_1 := blk_frozen BK120.out 1; have hfz118_2 := blk_frozen BK120.out 2; have hfz118_3 := blk_frozen BK120.out 3))
              have n0_ := Aside0.mk (blk_drew BK119.out)
              have n1_ := Aside0.mk (blk_drew BK120.out)
              have n2_ := Aside0.mk (below_drew1 HB.out)
              clear BK119
              clear BK120
              clear HB
              have BK119 := n0_
              have BK120 := n1_
              have HB := n2_
              clear n0_ n1_ n2_
              refine start_ (n := 26) (S := fun w' => w'.cell? ⟨gb120, 0, none⟩ = some (.int .i64 a1_0) ∧ w'.cell? ⟨gb120, 1, none⟩ = some (.int .i64 a1_1) ∧ w'.cell? ⟨gb120, 2, none⟩ = some (.int .i64 a1_2) ∧ w'.cell? ⟨gb120, 3, none⟩ = some (.slice A1_3 l1_3.length c1_3)) (ds := []) #[false, false, false, false, false, false, false, false, false, false, false, false, false, false, false, false, false, false, false, false, false, false, false, false, false, false] (by kernel_rfl) rfl rfl ⟨(blk_cell BK120.out 0).trans rfl, (blk_cell BK120.out 1).trans rfl, (blk_cell BK120.out 2).trans rfl, (blk_cell BK120.out 3).trans rfl⟩ (fun hHeld => ?_); refine with_tabW spec_progInst.tab19 spec_progInst.bits19 (fun HT_ HW_ => ?_)
              generalize w117.drew = w119 at BK119 BK120 HB hHeld ⊢
              refine pure_ (i := 0) (N := some 76) (v := ?_) (a' := ?_) #[true, false, false, false, false, false, false, false, false, false, false, false, false, false, false, false, false, false, false, false, false, false, false, false, false, false] rfl rfl (any_of HT_.out (by kernel_rfl)) (fun _ _ _ h => h) (Or.inl ⟨by rfl, ?_⟩) ?_ ?_
              rotate_left
              ·intro w'
               go_simp
               with_reducible rfl
              rotate_left
              ·simp only [Act.put, List.setIfInBounds_toArray, List.set_cons_zero, List.set_cons_succ, i64_w, i32_w]
               rfl
              refine take_ (i := 1) (N := some 77) (v := ?_) (a' := ?_) #[true, true, false, false, false, false, false, false, false, false, false, false, false, false, false, false, false, false, false, false, false, false, false, false, false, false] rfl rfl (take_ofW HT_.out HW_.out (by kernel_rfl)) (fun _ _ _ h => h) (Or.inl ⟨by rfl, ?_⟩) hHeld ?_ ?_
              rotate_left
              ·rintro w' ⟨s0, s1, s2, s3⟩
               go_simp
               with_reducible rfl
              rotate_left
              ·simp only [Act.put, List.setIfInBounds_toArray, List.set_cons_zero, List.set_cons_succ, i64_w, i32_w]
               rfl
              refine pure_ (i := 2) (N := some 78) (v := ?_) (a' := ?_) #[true, true, true, false, false, false, false, false, false, false, false, false, false, false, false, false, false, false, false, false, false, false, false, false, false, false] rfl rfl (any_of HT_.out (by kernel_rfl)) (fun _ _ _ h => h) (Or.inl ⟨by rfl, ?_⟩) ?_ ?_
              rotate_left
              ·intro w'
               go_simp
               with_reducible rfl
              rotate_left
              ·simp only [Act.put, List.setIfInBounds_toArray, List.set_cons_zero, List.set_cons_succ, i64_w, i32_w]
               rfl
              refine pure_ (i := 3) (N := some 79) (v := ?_) (a' := ?_) #[true, true, true, true, false, false, false, false, false, false, false, false, false, false, false, false, false, false, false, false, false, false, false, false, false, false] rfl rfl (any_of HT_.out (by kernel_rfl)) (fun _ _ _ h => h) (Or.inl ⟨by rfl, ?_⟩) ?_ ?_
              rotate_left
              ·intro w'
               go_simp
               with_reducible rfl
              rotate_left
              ·simp only [Act.put, List.setIfInBounds_toArray, List.set_cons_zero, List.set_cons_succ, i64_w, i32_w]
               rfl
              refine pure_ (i := 4) (N := some 80) (v := ?_) (a' := ?_) #[true, true, true, true, true, false, false, false, false, false, false, false, false, false, false, false, false, false, false, false, false, false, false, false, false, false] rfl rfl (any_of HT_.out (by kernel_rfl)) (fun _ _ _ h => h) (Or.inl ⟨by rfl, ?_⟩) ?_ ?_
              rotate_left
              ·intro w'
               go_simp
               with_reducible rfl
              rotate_left
              ·simp only [Act.put, List.setIfInBounds_toArray, List.set_cons_zero, List.set_cons_succ, i64_w, i32_w]
               rfl
              refine pure_ (i := 5) (N := some 81) (v := ?_) (a' := ?_) #[true, true, true, true, true, true, false, false, false, false, false, false, false, false, false, false, false, false, false, false, false, false, false, false, false, false] rfl rfl (any_of HT_.out (by kernel_rfl)) (fun _ _ _ h => h) (Or.inl ⟨by rfl, ?_⟩) ?_ ?_
              rotate_left
              ·intro w'
               go_simp
               with_reducible rfl
              rotate_left
              ·simp only [Act.put, List.setIfInBounds_toArray, List.set_cons_zero, List.set_cons_succ, i64_w, i32_w]
               rfl
              refine take_ (i := 6) (N := some 82) (v := ?_) (a' := ?_) #[true, true, true, true, true, true, true, false, false, false, false, false, false, false, false, false, false, false, false, false, false, false, false, false, false, false] rfl rfl (take_ofW HT_.out HW_.out (by kernel_rfl)) (fun _ _ _ h => h) (Or.inl ⟨by rfl, ?_⟩) hHeld ?_ ?_
              rotate_left
              ·rintro w' ⟨s0, s1, s2, s3⟩
               go_simp
               with_reducible rfl
              rotate_left
              ·simp only [Act.put, List.setIfInBounds_toArray, List.set_cons_zero, List.set_cons_succ, i64_w, i32_w]
               rfl
              refine pure_ (i := 7) (N := some 83) (v := ?_) (a' := ?_) #[true, true, true, true, true, true, true, true, false, false, false, false, false, false, false, false, false, false, false, false, false, false, false, false, false, false] rfl rfl (any_of HT_.out (by kernel_rfl)) (fun _ _ _ h => h) (Or.inl ⟨by rfl, ?_⟩) ?_ ?_
              rotate_left
              ·intro w'
               go_simp
               with_reducible rfl
              rotate_left
              ·simp only [Act.put, List.setIfInBounds_toArray, List.set_cons_zero, List.set_cons_succ, i64_w, i32_w]
               rfl
              refine pure_ (i := 8) (N := some 84) (v := ?_) (a' := ?_) #[true, true, true, true, true, true, true, true, true, false, false, false, false, false, false, false, false, false, false, false, false, false, false, false, false, false] rfl rfl (any_of HT_.out (by kernel_rfl)) (fun _ _ _ h => h) (Or.inl ⟨by rfl, ?_⟩) ?_ ?_
              rotate_left
              ·intro w'
               go_simp
               with_reducible rfl
              rotate_left
              ·simp only [Act.put, List.setIfInBounds_toArray, List.set_cons_zero, List.set_cons_succ, i64_w, i32_w]
               rfl
              refine pure_ (i := 9) (N := some 85) (v := ?_) (a' := ?_) #[true, true, true, true, true, true, true, true, true, true, false, false, false, false, false, false, false, false, false, false, false, false, false, false, false, false] rfl rfl (any_of HT_.out (by kernel_rfl)) (fun _ _ _ h => h) (Or.inl ⟨by rfl, ?_⟩) ?_ ?_
              rotate_left
              ·intro w'
               go_simp
               with_reducible rfl
              rotate_left
              ·simp only [Act.put, List.setIfInBounds_toArray, List.set_cons_zero, List.set_cons_succ, i64_w, i32_w]
               rfl
              refine pure_ (i := 10) (N := some 86) (v := undef) (a' := ?_) #[true, true, true, true, true, true, true, true, true, true, true, false, false, false, false, false, false, false, false, false, false, false, false, false, false, false] rfl rfl (any_of HT_.out (by kernel_rfl)) (fun _ _ _ h => h) (Or.inr ⟨by rfl, rfl⟩) ?_ ?_
              rotate_left
              ·simp only [Act.put, List.setIfInBounds_toArray, List.set_cons_zero, List.set_cons_succ, i64_w, i32_w]
               rfl
              refine pure_ (i := 11) (N := some 87) (v := undef) (a' := ?_) #[true, true, true, true, true, true, true, true, true, true, true, true, false, false, false, false, false, false, false, false, false, false, false, false, false, false] rfl rfl (any_of HT_.out (by kernel_rfl)) (fun _ _ _ h => h) (Or.inr ⟨by rfl, rfl⟩) ?_ ?_
              rotate_left
              ·simp only [Act.put, List.setIfInBounds_toArray, List.set_cons_zero, List.set_cons_succ, i64_w, i32_w]
               rfl
              refine pure_ (i := 12) (N := some 88) (v := undef) (a' := ?_) #[true, true, true, true, true, true, true, true, true, true, true, true, true, false, false, false, false, false, false, false, false, false, false, false, false, false] rfl rfl (any_of HT_.out (by kernel_rfl)) (fun _ _ _ h => h) (Or.inr ⟨by rfl, rfl⟩) ?_ ?_
              rotate_left
              ·simp only [Act.put, List.setIfInBounds_toArray, List.set_cons_zero, List.set_cons_succ, i64_w, i32_w]
               rfl
              refine pure_ (i := 13) (N := some 89) (v := undef) (a' := ?_) #[true, true, true, true, true, true, true, true, true, true, true, true, true, true, false, false, false, false, false, false, false, false, false, false, false, false] rfl rfl (any_of HT_.out (by kernel_rfl)) (fun _ _ _ h => h) (Or.inr ⟨by rfl, rfl⟩) ?_ ?_
              rotate_left
              ·simp only [Act.put, List.setIfInBounds_toArray, List.set_cons_zero, List.set_cons_succ, i64_w, i32_w]
               rfl
              refine pure_ (i := 14) (N := some 90) (v := undef) (a' := ?_) #[true, true, true, true, true, true, true, true, true, true, true, true, true, true, true, false, false, false, false, false, false, false, false, false, false, false] rfl rfl (any_of HT_.out (by kernel_rfl)) (fun _ _ _ h => h) (Or.inr ⟨by rfl, rfl⟩) ?_ ?_
              rotate_left
              ·simp only [Act.put, List.setIfInBounds_toArray, List.set_cons_zero, List.set_cons_succ, i64_w, i32_w]
               rfl
              refine pure_ (i := 15) (N := some 91) (v := undef) (a' := ?_) #[true, true, true, true, true, true, true, true, true, true, true, true, true, true, true, true, false, false, false, false, false, false, false, false, false, false] rfl rfl (any_of HT_.out (by kernel_rfl)) (fun _ _ _ h => h) (Or.inr ⟨by rfl, rfl⟩) ?_ ?_
              rotate_left
              ·simp only [Act.put, List.setIfInBounds_toArray, List.set_cons_zero, List.set_cons_succ, i64_w, i32_w]
               rfl
              refine pure_ (i := 16) (N := some 92) (v := undef) (a' := ?_) #[true, true, true, true, true, true, true, true, true, true, true, true, true, true, true, true, true, false, false, false, false, false, false, false, false, false] rfl rfl (any_of HT_.out (by kernel_rfl)) (fun _ _ _ h => h) (Or.inr ⟨by rfl, rfl⟩) ?_ ?_
              rotate_left
              ·simp only [Act.put, List.setIfInBounds_toArray, List.set_cons_zero, List.set_cons_succ, i64_w, i32_w]
               rfl
              refine pure_ (i := 17) (N := some 93) (v := undef) (a' := ?_) #[true, true, true, true, true, true, true, true, true, true, true, true, true, true, true, true, true, true, false, false, false, false, false, false, false, false] rfl rfl (any_of HT_.out (by kernel_rfl)) (fun _ _ _ h => h) (Or.inr ⟨by rfl, rfl⟩) ?_ ?_
              rotate_left
              ·simp only [Act.put, List.setIfInBounds_toArray, List.set_cons_zero, List.set_cons_succ, i64_w, i32_w]
               rfl
              refine pure_ (i := 18) (N := some 94) (v := undef) (a' := ?_) #[true, true, true, true, true, true, true, true, true, true, true, true, true, true, true, true, true, true, true, false, false, false, false, false, false, false] rfl rfl (any_of HT_.out (by kernel_rfl)) (fun _ _ _ h => h) (Or.inr ⟨by rfl, rfl⟩) ?_ ?_
              rotate_left
              ·simp only [Act.put, List.setIfInBounds_toArray, List.set_cons_zero, List.set_cons_succ, i64_w, i32_w]
               rfl
              refine pure_ (i := 19) (N := some 95) (v := ?_) (a' := ?_) #[true, true, true, true, true, true, true, true, true, true, true, true, true, true, true, true, true, true, true, true, false, false, false, false, false, false] rfl rfl (any_of HT_.out (by kernel_rfl)) (fun _ _ _ h => h) (Or.inl ⟨by rfl, ?_⟩) ?_ ?_
              rotate_left
              ·intro w'
               go_simp
               with_reducible rfl
              rotate_left
              ·simp only [Act.put, List.setIfInBounds_toArray, List.set_cons_zero, List.set_cons_succ, i64_w, i32_w]
               rfl
              refine pure_ (i := 20) (N := some 96) (v := ?_) (a' := ?_) #[true, true, true, true, true, true, true, true, true, true, true, true, true, true, true, true, true, true, true, true, true, false, false, false, false, false] rfl rfl (any_of HT_.out (by kernel_rfl)) (fun _ _ _ h => h) (Or.inl ⟨by rfl, ?_⟩) ?_ ?_
              rotate_left
              ·intro w'
               go_simp
               with_reducible rfl
              rotate_left
              ·simp only [Act.put, List.setIfInBounds_toArray, List.set_cons_zero, List.set_cons_succ, i64_w, i32_w]
               rfl
              refine pure_ (i := 21) (N := some 97) (v := ?_) (a' := ?_) #[true, true, true, true, true, true, true, true, true, true, true, true, true, true, true, true, true, true, true, true, true, true, false, false, false, false] rfl rfl (any_of HT_.out (by kernel_rfl)) (fun _ _ _ h => h) (Or.inl ⟨by rfl, ?_⟩) ?_ ?_
              rotate_left
              ·intro w'
               go_simp
               with_reducible rfl
              rotate_left
              ·simp only [Act.put, List.setIfInBounds_toArray, List.set_cons_zero, List.set_cons_succ, i64_w, i32_w]
               rfl
              refine pure_ (i := 22) (N := some 98) (v := undef) (a' := ?_) #[true, true, true, true, true, true, true, true, true, true, true, true, true, true, true, true, true, true, true, true, true, true, true, false, false, false] rfl rfl (any_of HT_.out (by kernel_rfl)) (fun _ _ _ h => h) (Or.inr ⟨by rfl, rfl⟩) ?_ ?_
              rotate_left
              ·simp only [Act.put, List.setIfInBounds_toArray, List.set_cons_zero, List.set_cons_succ, i64_w, i32_w]
               rfl
              refine pure_ (i := 23) (N := some 99) (v := undef) (a' := ?_) #[true, true, true, true, true, true, true, true, true, true, true, true, true, true, true, true, true, true, true, true, true, true, true, true, false, false] rfl rfl (any_of HT_.out (by kernel_rfl)) (fun _ _ _ h => h) (Or.inr ⟨by rfl, rfl⟩) ?_ ?_
              rotate_left
              ·simp only [Act.put, List.setIfInBounds_toArray, List.set_cons_zero, List.set_cons_succ, i64_w, i32_w]
               rfl
              refine pure_ (i := 24) (N := some 100) (v := ?_) (a' := ?_) #[true, true, true, true, true, true, true, true, true, true, true, true, true, true, true, true, true, true, true, true, true, true, true, true, true, false] rfl rfl (any_of HT_.out (by kernel_rfl)) (fun _ _ _ h => h) (Or.inl ⟨by rfl, ?_⟩) ?_ ?_
              rotate_left
              ·intro w'
               go_simp
               with_reducible rfl
              rotate_left
              ·simp only [Act.put, List.setIfInBounds_toArray, List.set_cons_zero, List.set_cons_succ, i64_w, i32_w]
               rfl
              refine pure_ (i := 25) (N := some 4) (v := ?_) (a' := ?_) #[true, true, true, true, true, true, true, true, true, true, true, true, true, true, true, true, true, true, true, true, true, true, true, true, true, true] rfl rfl (any_of HT_.out (by kernel_rfl)) (fun _ _ _ h => h) (Or.inl ⟨by rfl, ?_⟩) ?_ ?_
              rotate_left
              ·intro w'
               go_simp
               with_reducible rfl
              rotate_left
              ·simp only [Act.put, List.setIfInBounds_toArray, List.set_cons_zero, List.set_cons_succ, i64_w, i32_w]
               rfl
              refine done_ (done_of HT_.out (by kernel_rfl)) ?_
              try go_wp2
              go_ret
              exact ⟨by first | rfl | (simp [errW_none, errW_some] <;> rfl) | (simp [*, errW_none, errW_some] <;> rfl), by repeat (first | (with_reducible first | exact HB.out | apply below_alloc | apply pw_below_drewN | apply below_drew1 | refine below_set ?_ GE119.out | refine below_set ?_ GE120.out) | exact HB.out)⟩
           ·rw [if_neg c86] at H
            have c86b0 : (a1_0 == 8) = false := beq_eq_false_iff_ne.mpr c86
            have c86b1 : (a1_0 != 8) = true := bne_iff_ne.mpr c86
            by_cases c120 : a1_0 = 7
            ·rw [if_pos c120] at H
             have c120b0 : (a1_0 == 7) = true := beq_iff_eq.mpr c120
             have c120b1 : (a1_0 != 7) = false := bne_eq_false_iff_eq.mpr c120
             clear c120
             by_cases c121 : a1_2 = 1
             ·rw [if_pos c121] at H
              have c121b0 : (a1_2 == 1) = true := beq_iff_eq.mpr c121
              have c121b1 : (a1_2 != 1) = false := bne_eq_false_iff_eq.mpr c121
              clear c121
              by_cases c122 : (l1_3.length : Int) = 1
              ·rw [if_pos c122] at H
               have c122b0 : ((l1_3.length : Int) == 1) = true := beq_iff_eq.mpr c122
               have c122b1 : ((l1_3.length : Int) != 1) = false := bne_eq_false_iff_eq.mpr c122
               clear c122
               replace H := Option.bind_eq_some_iff.mp H
               obtain ⟨t135, A1230, H⟩ := H
               replace H : (if t135 = true then (some true) else (if a1_2 = 0 then ((spec_reClass.f kj2 l1_3).bind fun t136 => (some t136)) else (some false))) = some r := H
               have A123 := Aside0.mk A1230
               clear A1230
               by_cases c124 : t135 = true
               ·subst c124
                have H1 : (some true) = some r := by rw [if_pos rfl] at H; exact H
                clear H
                have H := H1
                clear H1
                obtain rfl := Option.some.inj H
                have hnb125 := NB119_120.out
                have hnc125 := NB120_119.out
                have hcz126_0 : wc.cell? ⟨gb119, 0, none⟩ = some (.slice A0_0 l0_0.length c0_0) := (blk_cell BK119.out 0).trans rfl
                have hcz126_1 : wc.cell? ⟨gb119, 1, none⟩ = some (.int .i64 a0_1) := (blk_cell BK119.out 1).trans rfl
                have hcz126_2 : wc.cell? ⟨gb119, 2, none⟩ = some (.int .i64 a0_2) := (blk_cell BK119.out 2).trans rfl
                have hfz126_0 := blk_frozen BK119.out 0
                have hfz126_1 := blk_frozen BK119.out 1
                have hfz126_2 := blk_frozen BK119.out 2
                have hcz127_0 : wc.cell? ⟨gb120, 0, none⟩ = some (.int .i64 a1_0) := (blk_cell BK120.out 0).trans rfl
                have hcz127_1 : wc.cell? ⟨gb120, 1, none⟩ = some (.int .i64 a1_1) := (blk_cell BK120.out 1).trans rfl
                have hcz127_2 : wc.cell? ⟨gb120, 2, none⟩ = some (.int .i64 a1_2) := (blk_cell BK120.out 2).trans rfl
                have hcz127_3 : wc.cell? ⟨gb120, 3, none⟩ = some (.slice A1_3 l1_3.length c1_3) := (blk_cell BK120.out 3).trans rfl
                have hfz127_0 := blk_frozen BK120.out 0
                have hfz127_1 := blk_frozen BK120.out 1
                have hfz127_2 := blk_frozen BK120.out 2
                have hfz127_3 := blk_frozen BK120.out 3
                go_wp2_with (first | ((with_reducible refine gate_callee (f := 35) rfl ?_); refine goesL_ (some 16) rfl rfl Tryd.func35 (by kernel_rfl) rfl #[.agg #[.slice A0_0 l0_0.length c0_0, .int .i64 a0_1, .int .i64 a0_2], .int .i64 a1_1] rfl (by (try simp only [List.map_toArray, List.map_cons, List.map_nil]); first | done | rfl | (simp only [List.length_drop, List.length_take]; rfl)) ?_; (with_reducible refine (spec_progTo.calls _ _ l0_0 a0_1 a0_2 a1_1 true _ ?side1 ?side2 A12.out).mono ?_); (case side1 => repeat (first | exact (Kd.C_below HR0_0.out HB.out) | (with_reducible refine Kd.C_alloc ?_ _) | (with_reducible refine Kd.C_drewN ?_ _) | (with_reducible refine Kd.C_drew ?_))); (case side2 => exact HC0_0.out); rintro e w128 ⟨rfl, hb⟩; refine ⟨_, rfl, ?_⟩; have n0_ := Aside0.mk (blk_below (g := gb119) (o := .cells #[.slice A0_0 l0_0.length c0_0, .int .i64 a0_1, .int .i64 a0_2] 24 (0, 0)) (by (with_reducible repeat (first | refine blk_drewN ?_ _ | refine blk_drew ?_ | refine blk_alloc ?_ _)); exact BK119.out) hb); have n1_ := Aside0.mk (blk_below (g := gb120) (o := .cells #[.int .i64 a1_0, .int .i64 a1_1, .int .i64 a1_2, .slice A1_3 l1_3.length c1_3] 55 (0, 0)) (by (with_reducible repeat (first | refine blk_drewN ?_ _ | refine blk_drew ?_ | refine blk_alloc ?_ _)); exact BK120.out) hb); have n2_ := Aside0.mk (below_step (by repeat (first | (with_reducible first | exact HB.out | apply below_alloc | apply pw_below_drewN | apply below_drew1 | refine below_set ?_ GE119.out | refine below_set ?_ GE120.out) | exact HB.out)) hb); clear BK119; clear BK120; clear HB; have BK119 := n0_; have BK120 := n1_; have HB := n2_; clear n0_ n1_ n2_; (try clear hb); (try clear hb2); (try clear hk); (try clear hi); have hcz129_0 : w128.cell? ⟨gb120, 0, none⟩ = some (.int .i64 a1_0) := (blk_cell BK120.out 0).trans rfl; have hcz129_1 : w128.cell? ⟨gb120, 1, none⟩ = some (.int .i64 a1_1) := (blk_cell BK120.out 1).trans rfl; have hcz129_2 : w128.cell? ⟨gb120, 2, none⟩ = some (.int .i64 a1_2) := (blk_cell BK120.out 2).trans rfl; have hcz129_3 : w128.cell? ⟨gb120, 3, none⟩ = some (.slice A1_3 l1_3.length c1_3) := (blk_cell BK120.out 3).trans rfl; have hfz129_0 := blk_frozen BK120.out 0; have hfz129_1 := blk_frozen BK120.out 1; have hfz129_2 := blk_frozen BK120.out 2; have hfz129_3 := blk_frozen BK120.out 3) | (go_at_call 53; (with_reducible refine (spec_progRunes.calls kj2 a1_0 a1_1 a1_2 _ _ l1_3 true _ ?side1 ?side2 A123.out).mono ?_); (case side1 => repeat (first | exact (Kd.C_below HR1_3.out HB.out) | (with_reducible refine Kd.C_alloc ?_ _) | (with_reducible refine Kd.C_drewN ?_ _) | (with_reducible refine Kd.C_drew ?_))); (case side2 => exact HC1_3.out); rintro e w130 ⟨rfl, hb⟩; have n0_ := Aside0.mk (blk_below (g := gb119) (o := .cells #[.slice A0_0 l0_0.length c0_0, .int .i64 a0_1, .int .i64 a0_2] 24 (0, 0)) (by (with_reducible repeat (first | refine blk_drewN ?_ _ | refine blk_drew ?_ | refine blk_alloc ?_ _)); exact BK119.out) hb); have n1_ := Aside0.mk (blk_below (g := gb120) (o := .cells #[.int .i64 a1_0, .int .i64 a1_1, .int .i64 a1_2, .slice A1_3 l1_3.length c1_3] 55 (0, 0)) (by (with_reducible repeat (first | refine blk_drewN ?_ _ | refine blk_drew ?_ | refine blk_alloc ?_ _)); exact BK120.out) hb); have n2_ := Aside0.mk (below_step (by repeat (first | (with_reducible first | exact HB.out | apply below_alloc | apply pw_below_drewN | apply below_drew1 | refine below_set ?_ GE119.out | refine below_set ?_ GE120.out) | exact HB.out)) hb); clear BK119; clear BK120; clear HB; have BK119 := n0_; have BK120 := n1_; have HB := n2_; clear n0_ n1_ n2_; (try clear hb); (try clear hb2); (try clear hk); (try clear hi)))
                go_ret
                exact ⟨by first | rfl | (simp [errW_none, errW_some] <;> rfl) | (simp [*, errW_none, errW_some] <;> rfl), by repeat (first | (with_reducible first | exact HB.out | apply below_alloc | apply pw_below_drewN | apply below_drew1 | refine below_set ?_ GE119.out | refine below_set ?_ GE120.out) | exact HB.out)⟩
               ·replace c124 := Bool.eq_false_iff.mpr c124
                subst c124
                have H1 : (if a1_2 = 0 then ((spec_reClass.f kj2 l1_3).bind fun t136 => (some t136)) else (some false)) = some r := by rw [if_neg (show ¬ (false = true) by decide)] at H; exact H
                clear H
                have H := H1
                clear H1
                by_cases c131 : a1_2 = 0
                ·rw [if_pos c131] at H
                 have c131b0 : (a1_2 == 0) = true := beq_iff_eq.mpr c131
                 have c131b1 : (a1_2 != 0) = false := bne_eq_false_iff_eq.mpr c131
                 clear c131
                 replace H := Option.bind_eq_some_iff.mp H
                 obtain ⟨t136, A1320, H⟩ := H
                 replace H : (some t136) = some r := H
                 have A132 := Aside0.mk A1320
                 clear A1320
                 obtain rfl := Option.some.inj H
                 have hnb133 := NB119_120.out
                 have hnc133 := NB120_119.out
                 have hcz134_0 : wc.cell? ⟨gb119, 0, none⟩ = some (.slice A0_0 l0_0.length c0_0) := (blk_cell BK119.out 0).trans rfl
                 have hcz134_1 : wc.cell? ⟨gb119, 1, none⟩ = some (.int .i64 a0_1) := (blk_cell BK119.out 1).trans rfl
                 have hcz134_2 : wc.cell? ⟨gb119, 2, none⟩ = some (.int .i64 a0_2) := (blk_cell BK119.out 2).trans rfl
                 have hfz134_0 := blk_frozen BK119.out 0
                 have hfz134_1 := blk_frozen BK119.out 1
                 have hfz134_2 := blk_frozen BK119.out 2
                 have hcz135_0 : wc.cell? ⟨gb120, 0, none⟩ = some (.int .i64 a1_0) := (blk_cell BK120.out 0).trans rfl
                 have hcz135_1 : wc.cell? ⟨gb120, 1, none⟩ = some (.int .i64 a1_1) := (blk_cell BK120.out 1).trans rfl
                 have hcz135_2 : wc.cell? ⟨gb120, 2, none⟩ = some (.int .i64 a1_2) := (blk_cell BK120.out 2).trans rfl
                 have hcz135_3 : wc.cell? ⟨gb120, 3, none⟩ = some (.slice A1_3 l1_3.length c1_3) := (blk_cell BK120.out 3).trans rfl
                 have hfz135_0 := blk_frozen BK120.out 0
                 have hfz135_1 := blk_frozen BK120.out 1
                 have hfz135_2 := blk_frozen BK120.out 2
                 have hfz135_3 := blk_frozen BK120.out 3
                 go_wp2_with (first | ((with_reducible refine gate_callee (f := 35) rfl ?_); refine goesL_ (some 16) rfl rfl Tryd.func35 (by kernel_rfl) rfl #[.agg #[.slice A0_0 l0_0.length c0_0, .int .i64 a0_1, .int .i64 a0_2], .int .i64 a1_1] rfl (by (try simp only [List.map_toArray, List.map_cons, List.map_nil]); first | done | rfl | (simp only [List.length_drop, List.length_take]; rfl)) ?_; (with_reducible refine (spec_progTo.calls _ _ l0_0 a0_1 a0_2 a1_1 true _ ?side1 ?side2 A12.out).mono ?_); (case side1 => repeat (first | exact (Kd.C_below HR0_0.out HB.out) | (with_reducible refine Kd.C_alloc ?_ _) | (with_reducible refine Kd.C_drewN ?_ _) | (with_reducible refine Kd.C_drew ?_))); (case side2 => exact HC0_0.out); rintro e w136 ⟨rfl, hb⟩; refine ⟨_, rfl, ?_⟩; have n0_ := Aside0.mk (blk_below (g := gb119) (o := .cells #[.slice A0_0 l0_0.length c0_0, .int .i64 a0_1, .int .i64 a0_2] 24 (0, 0)) (by (with_reducible repeat (first | refine blk_drewN ?_ _ | refine blk_drew ?_ | refine blk_alloc ?_ _)); exact BK119.out) hb); have n1_ := Aside0.mk (blk_below (g := gb120) (o := .cells #[.int .i64 a1_0, .int .i64 a1_1, .int .i64 a1_2, .slice A1_3 l1_3.length c1_3] 55 (0, 0)) (by (with_reducible repeat (first | refine blk_drewN ?_ _ | refine blk_drew ?_ | refine blk_alloc ?_ _)); exact BK120.out) hb); have n2_ := Aside0.mk (below_step (by repeat (first | (with_reducible first | exact HB.out | apply below_alloc | apply pw_below_drewN | apply below_drew1 | refine below_set ?_ GE119.out | refine below_set ?_ GE120.out) | exact HB.out)) hb); clear BK119; clear BK120; clear HB; have BK119 := n0_; have BK120 := n1_; have HB := n2_; clear n0_ n1_ n2_; (try clear hb); (try clear hb2); (try clear hk); (try clear hi); have hcz137_0 : w136.cell? ⟨gb120, 0, none⟩ = some (.int .i64 a1_0) := (blk_cell BK120.out 0).trans rfl; have hcz137_1 : w136.cell? ⟨gb120, 1, none⟩ = some (.int .i64 a1_1) := (blk_cell BK120.out 1).trans rfl; have hcz137_2 : w136.cell? ⟨gb120, 2, none⟩ = some (.int .i64 a1_2) := (blk_cell BK120.out 2).trans rfl; have hcz137_3 : w136.cell? ⟨gb120, 3, none⟩ = some (.slice A1_3 l1_3.length c1_3) := (blk_cell BK120.out 3).trans rfl; have hfz137_0 := blk_frozen BK120.out 0; have hfz137_1 := blk_frozen BK120.out 1; have hfz137_2 := blk_frozen BK120.out 2; have hfz137_3 := blk_frozen BK120.out 3) | (go_at_call 53; (with_reducible refine (spec_progRunes.calls kj2 a1_0 a1_1 a1_2 _ _ l1_3 false _ ?side1 ?side2 A123.out).mono ?_); (case side1 => repeat (first | exact (Kd.C_below HR1_3.out HB.out) | (with_reducible refine Kd.C_alloc ?_ _) | (with_reducible refine Kd.C_drewN ?_ _) | (with_reducible refine Kd.C_drew ?_))); (case side2 => exact HC1_3.out); rintro e w138 ⟨rfl, hb⟩; have n0_ := Aside0.mk (blk_below (g := gb119) (o := .cells #[.slice A0_0 l0_0.length c0_0, .int .i64 a0_1, .int .i64 a0_2] 24 (0, 0)) (by (with_reducible repeat (first | refine blk_drewN ?_ _ | refine blk_drew ?_ | refine blk_alloc ?_ _)); exact BK119.out) hb); have n1_ := Aside0.mk (blk_below (g := gb120) (o := .cells #[.int .i64 a1_0, .int .i64 a1_1, .int .i64 a1_2, .slice A1_3 l1_3.length c1_3] 55 (0, 0)) (by (with_reducible repeat (first | refine blk_drewN ?_ _ | refine blk_drew ?_ | refine blk_alloc ?_ _)); exact BK120.out) hb); have n2_ := Aside0.mk (below_step (by repeat (first | (with_reducible first | exact HB.out | apply below_alloc | apply pw_below_drewN | apply below_drew1 | refine below_set ?_ GE119.out | refine below_set ?_ GE120.out) | exact HB.out)) hb); clear BK119; clear BK120; clear HB; have BK119 := n0_; have BK120 := n1_; have HB := n2_; clear n0_ n1_ n2_; (try clear hb); (try clear hb2); (try clear hk); (try clear hi); have hcz139_0 : w138.cell? ⟨gb120, 0, none⟩ = some (.int .i64 a1_0) := (blk_cell BK120.out 0).trans rfl; have hcz139_1 : w138.cell? ⟨gb120, 1, none⟩ = some (.int .i64 a1_1) := (blk_cell BK120.out 1).trans rfl; have hcz139_2 : w138.cell? ⟨gb120, 2, none⟩ = some (.int .i64 a1_2) := (blk_cell BK120.out 2).trans rfl; have hcz139_3 : w138.cell? ⟨gb120, 3, none⟩ = some (.slice A1_3 l1_3.length c1_3) := (blk_cell BK120.out 3).trans rfl; have hfz139_0 := blk_frozen BK120.out 0; have hfz139_1 := blk_frozen BK120.out 1; have hfz139_2 := blk_frozen BK120.out 2; have hfz139_3 := blk_frozen BK120.out 3) | (go_at_call 54; (with_reducible refine (spec_reClass.calls kj2 _ _ l1_3 t136 _ ?side1 ?side2 A132.out).mono ?_); (case side1 => repeat (first | exact (Kd.C_below HR1_3.out HB.out) | (with_reducible refine Kd.C_alloc ?_ _) | (with_reducible refine Kd.C_drewN ?_ _) | (with_reducible refine Kd.C_drew ?_))); (case side2 => exact HC1_3.out); rintro e w' ⟨rfl, ⟨nd, rfl⟩⟩))
                 go_ret
                 exact ⟨by first | rfl | (simp [errW_none, errW_some] <;> rfl) | (simp [*, errW_none, errW_some] <;> rfl), by repeat (first | (with_reducible first | exact HB.out | apply below_alloc | apply pw_below_drewN | apply below_drew1 | refine below_set ?_ GE119.out | refine below_set ?_ GE120.out) | exact HB.out)⟩
                ·rw [if_neg c131] at H
                 have c131b0 : (a1_2 == 0) = false := beq_eq_false_iff_ne.mpr c131
                 have c131b1 : (a1_2 != 0) = true := bne_iff_ne.mpr c131
                 obtain rfl := Option.some.inj H
                 have hnb140 := NB119_120.out
                 have hnc140 := NB120_119.out
                 have hcz141_0 : wc.cell? ⟨gb119, 0, none⟩ = some (.slice A0_0 l0_0.length c0_0) := (blk_cell BK119.out 0).trans rfl
                 have hcz141_1 : wc.cell? ⟨gb119, 1, none⟩ = some (.int .i64 a0_1) := (blk_cell BK119.out 1).trans rfl
                 have hcz141_2 : wc.cell? ⟨gb119, 2, none⟩ = some (.int .i64 a0_2) := (blk_cell BK119.out 2).trans rfl
                 have hfz141_0 := blk_frozen BK119.out 0
                 have hfz141_1 := blk_frozen BK119.out 1
                 have hfz141_2 := blk_frozen BK119.out 2
                 have hcz142_0 : wc.cell? ⟨gb120, 0, none⟩ = some (.int .i64 a1_0) := (blk_cell BK120.out 0).trans rfl
                 have hcz142_1 : wc.cell? ⟨gb120, 1, none⟩ = some (.int .i64 a1_1) := (blk_cell BK120.out 1).trans rfl
                 have hcz142_2 : wc.cell? ⟨gb120, 2, none⟩ = some (.int .i64 a1_2) := (blk_cell BK120.out 2).trans rfl
                 have hcz142_3 : wc.cell? ⟨gb120, 3, none⟩ = some (.slice A1_3 l1_3.length c1_3) := (blk_cell BK120.out 3).trans rfl
                 have hfz142_0 := blk_frozen BK120.out 0
                 have hfz142_1 := blk_frozen BK120.out 1
                 have hfz142_2 := blk_frozen BK120.out 2
                 have hfz142_3 := blk_frozen BK120.out 3
                 go_wp2_with (first | ((with_reducible refine gate_callee (f := 35) rfl ?_); refine goesL_ (some 16) rfl rfl Tryd.func35 (by kernel_rfl) rfl #[.agg #[.slice A0_0 l0_0.length c0_0, .int .i64 a0_1, .int .i64 a0_2], .int .i64 a1_1] rfl (by (try simp only [List.map_toArray, List.map_cons, List.map_nil]); first | done | rfl | (simp only [List.length_drop, List.length_take]; rfl)) ?_; (with_reducible refine (spec_progTo.calls _ _ l0_0 a0_1 a0_2 a1_1 true _ ?side1 ?side2 A12.out).mono ?_); (case side1 => repeat (first | exact (Kd.C_below HR0_0.out HB.out) | (with_reducible refine Kd.C_alloc ?_ _) | (with_reducible refine Kd.C_drewN ?_ _) | (with_reducible refine Kd.C_drew ?_))); (case side2 => exact HC0_0.out); rintro e w143 ⟨rfl, hb⟩; refine ⟨_, rfl, ?_⟩; have n0_ := Aside0.mk (blk_below (g := gb119) (o := .cells #[.slice A0_0 l0_0.length c0_0, .int .i64 a0_1, .int .i64 a0_2] 24 (0, 0)) (by (with_reducible repeat (first | refine blk_drewN ?_ _ | refine blk_drew ?_ | refine blk_alloc ?_ _)); exact BK119.out) hb); have n1_ := Aside0.mk (blk_below (g := gb120) (o := .cells #[.int .i64 a1_0, .int .i64 a1_1, .int .i64 a1_2, .slice A1_3 l1_3.length c1_3] 55 (0, 0)) (by (with_reducible repeat (first | refine blk_drewN ?_ _ | refine blk_drew ?_ | refine blk_alloc ?_ _)); exact BK120.out) hb); have n2_ := Aside0.mk (below_step (by repeat (first | (with_reducible first | exact HB.out | apply below_alloc | apply pw_below_drewN | apply below_drew1 | refine below_set ?_ GE119.out | refine below_set ?_ GE120.out) | exact HB.out)) hb); clear BK119; clear BK120; clear HB; have BK119 := n0_; have BK120 := n1_; have HB := n2_; clear n0_ n1_ n2_; (try clear hb); (try clear hb2); (try clear hk); (try clear hi); have hcz144_0 : w143.cell? ⟨gb120, 0, none⟩ = some (.int .i64 a1_0) := (blk_cell BK120.out 0).trans rfl; have hcz144_1 : w143.cell? ⟨gb120, 1, none⟩ = some (.int .i64 a1_1) := (blk_cell BK120.out 1).trans rfl; have hcz144_2 : w143.cell? ⟨gb120, 2, none⟩ = some (.int .i64 a1_2) := (blk_cell BK120.out 2).trans rfl; have hcz144_3 : w143.cell? ⟨gb120, 3, none⟩ = some (.slice A1_3 l1_3.length c1_3) := (blk_cell BK120.out 3).trans rfl; have hfz144_0 := blk_frozen BK120.out 0; have hfz144_1 := blk_frozen BK120.out 1; have hfz144_2 := blk_frozen BK120.out 2; have hfz144_3 := blk_frozen BK120.out 3) | (go_at_call 53; (with_reducible refine (spec_progRunes.calls kj2 a1_0 a1_1 a1_2 _ _ l1_3 false _ ?side1 ?side2 A123.out).mono ?_); (case side1 => repeat (first | exact (Kd.C_below HR1_3.out HB.out) | (with_reducible refine Kd.C_alloc ?_ _) | (with_reducible refine Kd.C_drewN ?_ _) | (with_reducible refine Kd.C_drew ?_))); (case side2 => exact HC1_3.out); rintro e w145 ⟨rfl, hb⟩; have n0_ := Aside0.mk (blk_below (g := gb119) (o := .cells #[.slice A0_0 l0_0.length c0_0, .int .i64 a0_1, .int .i64 a0_2] 24 (0, 0)) (by (with_reducible repeat (first | refine blk_drewN ?_ _ | refine blk_drew ?_ | refine blk_alloc ?_ _)); exact BK119.out) hb); have n1_ := Aside0.mk (blk_below (g := gb120) (o := .cells #[.int .i64 a1_0, .int .i64 a1_1, .int .i64 a1_2, .slice A1_3 l1_3.length c1_3] 55 (0, 0)) (by (with_reducible repeat (first | refine blk_drewN ?_ _ | refine blk_drew ?_ | refine blk_alloc ?_ _)); exact BK120.out) hb); have n2_ := Aside0.mk (below_step (by repeat (first | (with_reducible first | exact HB.out | apply below_alloc | apply pw_below_drewN | apply below_drew1 | refine below_set ?_ GE119.out | refine below_set ?_ GE120.out) | exact HB.out)) hb); clear BK119; clear BK120; clear HB; have BK119 := n0_; have BK120 := n1_; have HB := n2_; clear n0_ n1_ n2_; (try clear hb); (try clear hb2); (try clear hk); (try clear hi); have hcz146_0 : w145.cell? ⟨gb120, 0, none⟩ = some (.int .i64 a1_0) := (blk_cell BK120.out 0).trans rfl; have hcz146_1 : w145.cell? ⟨gb120, 1, none⟩ = some (.int .i64 a1_1) := (blk_cell BK120.out 1).trans rfl; have hcz146_2 : w145.cell? ⟨gb120, 2, none⟩ = some (.int .i64 a1_2) := (blk_cell BK120.out 2).trans rfl; have hcz146_3 : w145.cell? ⟨gb120, 3, none⟩ = some (.slice A1_3 l1_3.length c1_3) := (blk_cell BK120.out 3).trans rfl; have hfz146_0 := blk_frozen BK120.out 0; have hfz146_1 := blk_frozen BK120.out 1; have hfz146_2 := blk_frozen BK120.out 2; have hfz146_3 := blk_frozen BK120.out 3))
                 go_ret
                 exact ⟨by first | rfl | (simp [errW_none, errW_some] <;> rfl) | (simp [*, errW_none, errW_some] <;> rfl), by repeat (first | (with_reducible first | exact HB.out | apply below_alloc | apply pw_below_drewN | apply below_drew1 | refine below_set ?_ GE119.out | refine below_set ?_ GE120.out) | exact HB.out)⟩
              ·rw [if_neg c122] at H
               have c122b0 : ((l1_3.length : Int) == 1) = false := beq_eq_false_iff_ne.mpr c122
               have c122b1 : ((l1_3.length : Int) != 1) = true := bne_iff_ne.mpr c122
               by_cases c147 : a1_2 = 0
               ·rw [if_pos c147] at H
                have c147b0 : (a1_2 == 0) = true := beq_iff_eq.mpr c147
                have c147b1 : (a1_2 != 0) = false := bne_eq_false_iff_eq.mpr c147
                clear c147
                replace H := Option.bind_eq_some_iff.mp H
                obtain ⟨t137, A1480, H⟩ := H
                replace H : (some t137) = some r := H
                have A148 := Aside0.mk A1480
                clear A1480
                obtain rfl := Option.some.inj H
                have hnb149 := NB119_120.out
                have hnc149 := NB120_119.out
                have hcz150_0 : wc.cell? ⟨gb119, 0, none⟩ = some (.slice A0_0 l0_0.length c0_0) := (blk_cell BK119.out 0).trans rfl
                have hcz150_1 : wc.cell? ⟨gb119, 1, none⟩ = some (.int .i64 a0_1) := (blk_cell BK119.out 1).trans rfl
                have hcz150_2 : wc.cell? ⟨gb119, 2, none⟩ = some (.int .i64 a0_2) := (blk_cell BK119.out 2).trans rfl
                have hfz150_0 := blk_frozen BK119.out 0
                have hfz150_1 := blk_frozen BK119.out 1
                have hfz150_2 := blk_frozen BK119.out 2
                have hcz151_0 : wc.cell? ⟨gb120, 0, none⟩ = some (.int .i64 a1_0) := (blk_cell BK120.out 0).trans rfl
                have hcz151_1 : wc.cell? ⟨gb120, 1, none⟩ = some (.int .i64 a1_1) := (blk_cell BK120.out 1).trans rfl
                have hcz151_2 : wc.cell? ⟨gb120, 2, none⟩ = some (.int .i64 a1_2) := (blk_cell BK120.out 2).trans rfl
                have hcz151_3 : wc.cell? ⟨gb120, 3, none⟩ = some (.slice A1_3 l1_3.length c1_3) := (blk_cell BK120.out 3).trans rfl
                have hfz151_0 := blk_frozen BK120.out 0
                have hfz151_1 := blk_frozen BK120.out 1
                have hfz151_2 := blk_frozen BK120.out 2
                have hfz151_3 := blk_frozen BK120.out 3
                go_wp2_with (first | ((with_reducible refine gate_callee (f := 35) rfl ?_); refine goesL_ (some 16) rfl rfl Tryd.func35 (by kernel_rfl) rfl #[.agg #[.slice A0_0 l0_0.length c0_0, .int .i64 a0_1, .int .i64 a0_2], .int .i64 a1_1] rfl (by (try simp only [List.map_toArray, List.map_cons, List.map_nil]); first | done | rfl | (simp only [List.length_drop, List.length_take]; rfl)) ?_; (with_reducible refine (spec_progTo.calls _ _ l0_0 a0_1 a0_2 a1_1 true _ ?side1 ?side2 A12.out).mono ?_); (case side1 => repeat (first | exact (Kd.C_below HR0_0.out HB.out) | (with_reducible refine Kd.C_alloc ?_ _) | (with_reducible refine Kd.C_drewN ?_ _) | (with_reducible refine Kd.C_drew ?_))); (case side2 => exact HC0_0.out); rintro e w152 ⟨rfl, hb⟩; refine ⟨_, rfl, ?_⟩; have n0_ := Aside0.mk (blk_below (g := gb119) (o := .cells #[.slice A0_0 l0_0.length c0_0, .int .i64 a0_1, .int .i64 a0_2] 24 (0, 0)) (by (with_reducible repeat (first | refine blk_drewN ?_ _ | refine blk_drew ?_ | refine blk_alloc ?_ _)); exact BK119.out) hb); have n1_ := Aside0.mk (blk_below (g := gb120) (o := .cells #[.int .i64 a1_0, .int .i64 a1_1, .int .i64 a1_2, .slice A1_3 l1_3.length c1_3] 55 (0, 0)) (by (with_reducible repeat (first | refine blk_drewN ?_ _ | refine blk_drew ?_ | refine blk_alloc ?_ _)); exact BK120.out) hb); have n2_ := Aside0.mk (below_step (by repeat (first | (with_reducible first | exact HB.out | apply below_alloc | apply pw_below_drewN | apply below_drew1 | refine below_set ?_ GE119.out | refine below_set ?_ GE120.out) | exact HB.out)) hb); clear BK119; clear BK120; clear HB; have BK119 := n0_; have BK120 := n1_; have HB := n2_; clear n0_ n1_ n2_; (try clear hb); (try clear hb2); (try clear hk); (try clear hi); have hcz153_0 : w152.cell? ⟨gb120, 0, none⟩ = some (.int .i64 a1_0) := (blk_cell BK120.out 0).trans rfl; have hcz153_1 : w152.cell? ⟨gb120, 1, none⟩ = some (.int .i64 a1_1) := (blk_cell BK120.out 1).trans rfl; have hcz153_2 : w152.cell? ⟨gb120, 2, none⟩ = some (.int .i64 a1_2) := (blk_cell BK120.out 2).trans rfl; have hcz153_3 : w152.cell? ⟨gb120, 3, none⟩ = some (.slice A1_3 l1_3.length c1_3) := (blk_cell BK120.out 3).trans rfl; have hfz153_0 := blk_frozen BK120.out 0; have hfz153_1 := blk_frozen BK120.out 1; have hfz153_2 := blk_frozen BK120.out 2; have hfz153_3 := blk_frozen BK120.out 3) | (go_at_call 54; (with_reducible refine (spec_reClass.calls kj2 _ _ l1_3 t137 _ ?side1 ?side2 A148.out).mono ?_); (case side1 => repeat (first | exact (Kd.C_below HR1_3.out HB.out) | (with_reducible refine Kd.C_alloc ?_ _) | (with_reducible refine Kd.C_drewN ?_ _) | (with_reducible refine Kd.C_drew ?_))); (case side2 => exact HC1_3.out); rintro e w' ⟨rfl, ⟨nd, rfl⟩⟩))
                go_ret
                exact ⟨by first | rfl | (simp [errW_none, errW_some] <;> rfl) | (simp [*, errW_none, errW_some] <;> rfl), by repeat (first | (with_reducible first | exact HB.out | apply below_alloc | apply pw_below_drewN | apply below_drew1 | refine below_set ?_ GE119.out | refine below_set ?_ GE120.out) | exact HB.out)⟩
               ·rw [if_neg c147] at H
                have c147b0 : (a1_2 == 0) = false := beq_eq_false_iff_ne.mpr c147
                have c147b1 : (a1_2 != 0) = true := bne_iff_ne.mpr c147
                obtain rfl := Option.some.inj H
                have hnb154 := NB119_120.out
                have hnc154 := NB120_119.out
                have hcz155_0 : wc.cell? ⟨gb119, 0, none⟩ = some (.slice A0_0 l0_0.length c0_0) := (blk_cell BK119.out 0).trans rfl
                have hcz155_1 : wc.cell? ⟨gb119, 1, none⟩ = some (.int .i64 a0_1) := (blk_cell BK119.out 1).trans rfl
                have hcz155_2 : wc.cell? ⟨gb119, 2, none⟩ = some (.int .i64 a0_2) := (blk_cell BK119.out 2).trans rfl
                have hfz155_0 := blk_frozen BK119.out 0
                have hfz155_1 := blk_frozen BK119.out 1
                have hfz155_2 := blk_frozen BK119.out 2
                have hcz156_0 : wc.cell? ⟨gb120, 0, none⟩ = some (.int .i64 a1_0) := (blk_cell BK120.out 0).trans rfl
                have hcz156_1 : wc.cell? ⟨gb120, 1, none⟩ = some (.int .i64 a1_1) := (blk_cell BK120.out 1).trans rfl
                have hcz156_2 : wc.cell? ⟨gb120, 2, none⟩ = some (.int .i64 a1_2) := (blk_cell BK120.out 2).trans rfl
                have hcz156_3 : wc.cell? ⟨gb120, 3, none⟩ = some (.slice A1_3 l1_3.length c1_3) := (blk_cell BK120.out 3).trans rfl
                have hfz156_0 := blk_frozen BK120.out 0
                have hfz156_1 := blk_frozen BK120.out 1
                have hfz156_2 := blk_frozen BK120.out 2
                have hfz156_3 := blk_frozen BK120.out 3
                go_wp2_with (first | ((with_reducible refine gate_callee (f := 35) rfl ?_); refine goesL_ (some 16) rfl rfl Tryd.func35 (by kernel_rfl) rfl #[.agg #[.slice A0_0 l0_0.length c0_0, .int .i64 a0_1, .int .i64 a0_2], .int .i64 a1_1] rfl (by (try simp only [List.map_toArray, List.map_cons, List.map_nil]); first | done | rfl | (simp only [List.length_drop, List.length_take]; rfl)) ?_; (with_reducible refine (spec_progTo.calls _ _ l0_0 a0_1 a0_2 a1_1 true _ ?side1 ?side2 A12.out).mono ?_); (case side1 => repeat (first | exact (Kd.C_below HR0_0.out HB.out) | (with_reducible refine Kd.C_alloc ?_ _) | (with_reducible refine Kd.C_drewN ?_ _) | (with_reducible refine Kd.C_drew ?_))); (case side2 => exact HC0_0.out); rintro e w157 ⟨rfl, hb⟩; refine ⟨_, rfl, ?_⟩; have n0_ := Aside0.mk (blk_below (g := gb119) (o := .cells #[.slice A0_0 l0_0.length c0_0, .int .i64 a0_1, .int .i64 a0_2] 24 (0, 0)) (by (with_reducible repeat (first | refine blk_drewN ?_ _ | refine blk_drew ?_ | refine blk_alloc ?_ _)); exact BK119.out) hb); have n1_ := Aside0.mk (blk_below (g := gb120) (o := .cells #[.int .i64 a1_0, .int .i64 a1_1, .int .i64 a1_2, .slice A1_3 l1_3.length c1_3] 55 (0, 0)) (by (with_reducible repeat (first | refine blk_drewN ?_ _ | refine blk_drew ?_ | refine blk_alloc ?_ _)); exact BK120.out) hb); have n2_ := Aside0.mk (below_step (by repeat (first | (with_reducible first | exact HB.out | apply below_alloc | apply pw_below_drewN | apply below_drew1 | refine below_set ?_ GE119.out | refine below_set ?_ GE120.out) | exact HB.out)) hb); clear BK119; clear BK120; clear HB; have BK119 := n0_; have BK120 := n1_; have HB := n2_; clear n0_ n1_ n2_; (try clear hb); (try clear hb2); (try clear hk); (try clear hi); have hcz158_0 : w157.cell? ⟨gb120, 0, none⟩ = some (.int .i64 a1_0) := (blk_cell BK120.out 0).trans rfl; have hcz158_1 : w157.cell? ⟨gb120, 1, none⟩ = some (.int .i64 a1_1) := (blk_cell BK120.out 1).trans rfl; have hcz158_2 : w157.cell? ⟨gb120, 2, none⟩ = some (.int .i64 a1_2) := (blk_cell BK120.out 2).trans rfl; have hcz158_3 : w157.cell? ⟨gb120, 3, none⟩ = some (.slice A1_3 l1_3.length c1_3) := (blk_cell BK120.out 3).trans rfl; have hfz158_0 := blk_frozen BK120.out 0; have hfz158_1 := blk_frozen BK120.out 1; have hfz158_2 := blk_frozen BK120.out 2; have hfz158_3 := blk_frozen BK120.out 3))
                go_ret
                exact ⟨by first | rfl | (simp [errW_none, errW_some] <;> rfl) | (simp [*, errW_none, errW_some] <;> rfl), by repeat (first | (with_reducible first | exact HB.out | apply below_alloc | apply pw_below_drewN | apply below_drew1 | refine below_set ?_ GE119.out | refine below_set ?_ GE120.out) | exact HB.out)⟩
             ·rw [if_neg c121] at H
              have c121b0 : (a1_2 == 1) = false := beq_eq_false_iff_ne.mpr c121
              have c121b1 : (a1_2 != 1) = true := bne_iff_ne.mpr c121
              by_cases c159 : a1_2 = 0
              ·rw [if_pos c159] at H
               have c159b0 : (a1_2 == 0) = true := beq_iff_eq.mpr c159
               have c159b1 : (a1_2 != 0) = false := bne_eq_false_iff_eq.mpr c159
               clear c159
               replace H := Option.bind_eq_some_iff.mp H
               obtain ⟨t138, A1600, H⟩ := H
               replace H : (some t138) = some r := H
               have A160 := Aside0.mk A1600
               clear A1600
               obtain rfl := Option.some.inj H
               have hnb161 := NB119_120.out
               have hnc161 := NB120_119.out
               have hcz162_0 : wc.cell? ⟨gb119, 0, none⟩ = some (.slice A0_0 l0_0.length c0_0) := (blk_cell BK119.out 0).trans rfl
               have hcz162_1 : wc.cell? ⟨gb119, 1, none⟩ = some (.int .i64 a0_1) := (blk_cell BK119.out 1).trans rfl
               have hcz162_2 : wc.cell? ⟨gb119, 2, none⟩ = some (.int .i64 a0_2) := (blk_cell BK119.out 2).trans rfl
               have hfz162_0 := blk_frozen BK119.out 0
               have hfz162_1 := blk_frozen BK119.out 1
               have hfz162_2 := blk_frozen BK119.out 2
               have hcz163_0 : wc.cell? ⟨gb120, 0, none⟩ = some (.int .i64 a1_0) := (blk_cell BK120.out 0).trans rfl
               have hcz163_1 : wc.cell? ⟨gb120, 1, none⟩ = some (.int .i64 a1_1) := (blk_cell BK120.out 1).trans rfl
               have hcz163_2 : wc.cell? ⟨gb120, 2, none⟩ = some (.int .i64 a1_2) := (blk_cell BK120.out 2).trans rfl
               have hcz163_3 : wc.cell? ⟨gb120, 3, none⟩ = some (.slice A1_3 l1_3.length c1_3) := (blk_cell BK120.out 3).trans rfl
               have hfz163_0 := blk_frozen BK120.out 0
               have hfz163_1 := blk_frozen BK120.out 1
               have hfz163_2 := blk_frozen BK120.out 2
               have hfz163_3 := blk_frozen BK120.out 3
               go_wp2_with (first | ((with_reducible refine gate_callee (f := 35) rfl ?_); refine goesL_ (some 16) rfl rfl Tryd.func35 (by kernel_rfl) rfl #[.agg #[.slice A0_0 l0_0.length c0_0, .int .i64 a0_1, .int .i64 a0_2], .int .i64 a1_1] rfl (by (try simp only [List.map_toArray, List.map_cons, List.map_nil]); first | done | rfl | (simp only [List.length_drop, List.length_take]; rfl)) ?_; (with_reducible refine (spec_progTo.calls _ _ l0_0 a0_1 a0_2 a1_1 true _ ?side1 ?side2 A12.out).mono ?_); (case side1 => repeat (first | exact (Kd.C_below HR0_0.out HB.out) | (with_reducible refine Kd.C_alloc ?_ _) | (with_reducible refine Kd.C_drewN ?_ _) | (with_reducible refine Kd.C_drew ?_))); (case side2 => exact HC0_0.out); rintro e w164 ⟨rfl, hb⟩; refine ⟨_, rfl, ?_⟩; have n0_ := Aside0.mk (blk_below (g := gb119) (o := .cells #[.slice A0_0 l0_0.length c0_0, .int .i64 a0_1, .int .i64 a0_2] 24 (0, 0)) (by (with_reducible repeat (first | refine blk_drewN ?_ _ | refine blk_drew ?_ | refine blk_alloc ?_ _)); exact BK119.out) hb); have n1_ := Aside0.mk (blk_below (g := gb120) (o := .cells #[.int .i64 a1_0, .int .i64 a1_1, .int .i64 a1_2, .slice A1_3 l1_3.length c1_3] 55 (0, 0)) (by (with_reducible repeat (first | refine blk_drewN ?_ _ | refine blk_drew ?_ | refine blk_alloc ?_ _)); exact BK120.out) hb); have n2_ := Aside0.mk (below_step (by repeat (first | (with_reducible first | exact HB.out | apply below_alloc | apply pw_below_drewN | apply below_drew1 | refine below_set ?_ GE119.out | refine below_set ?_ GE120.out) | exact HB.out)) hb); clear BK119; clear BK120; clear HB; have BK119 := n0_; have BK120 := n1_; have HB := n2_; clear n0_ n1_ n2_; (try clear hb); (try clear hb2); (try clear hk); (try clear hi); have hcz165_0 : w164.cell? ⟨gb120, 0, none⟩ = some (.int .i64 a1_0) := (blk_cell BK120.out 0).trans rfl; have hcz165_1 : w164.cell? ⟨gb120, 1, none⟩ = some (.int .i64 a1_1) := (blk_cell BK120.out 1).trans rfl; have hcz165_2 : w164.cell? ⟨gb120, 2, none⟩ = some (.int .i64 a1_2) := (blk_cell BK120.out 2).trans rfl; have hcz165_3 : w164.cell? ⟨gb120, 3, none⟩ = some (.slice A1_3 l1_3.length c1_3) := (blk_cell BK120.out 3).trans rfl; have hfz165_0 := blk_frozen BK120.out 0; have hfz165_1 := blk_frozen BK120.out 1; have hfz165_2 := blk_frozen BK120.out 2; have hfz165_3 := blk_frozen BK120.out 3) | (go_at_call 54; (with_reducible refine (spec_reClass.calls kj2 _ _ l1_3 t138 _ ?side1 ?side2 A160.out).mono ?_); (case side1 => repeat (first | exact (Kd.C_below HR1_3.out HB.out) | (with_reducible refine Kd.C_alloc ?_ _) | (with_reducible refine Kd.C_drewN ?_ _) | (with_reducible refine Kd.C_drew ?_))); (case side2 => exact HC1_3.out); rintro e w' ⟨rfl, ⟨nd, rfl⟩⟩))
               go_ret
               exact ⟨by first | rfl | (simp [errW_none, errW_some] <;> rfl) | (simp [*, errW_none, errW_some] <;> rfl), by repeat (first | (with_reducible first | exact HB.out | apply below_alloc | apply pw_below_drewN | apply below_drew1 | refine below_set ?_ GE119.out | refine below_set ?_ GE120.out) | exact HB.out)⟩
              ·rw [if_neg c159] at H
               have c159b0 : (a1_2 == 0) = false := beq_eq_false_iff_ne.mpr c159
               have c159b1 : (a1_2 != 0) = true := bne_iff_ne.mpr c159
               obtain rfl := Option.some.inj H
               have hnb166 := NB119_120.out
               have hnc166 := NB120_119.out
               have hcz167_0 : wc.cell? ⟨gb119, 0, none⟩ = some (.slice A0_0 l0_0.length c0_0) := (blk_cell BK119.out 0).trans rfl
               have hcz167_1 : wc.cell? ⟨gb119, 1, none⟩ = some (.int .i64 a0_1) := (blk_cell BK119.out 1).trans rfl
               have hcz167_2 : wc.cell? ⟨gb119, 2, none⟩ = some (.int .i64 a0_2) := (blk_cell BK119.out 2).trans rfl
               have hfz167_0 := blk_frozen BK119.out 0
               have hfz167_1 := blk_frozen BK119.out 1
               have hfz167_2 := blk_frozen BK119.out 2
               have hcz168_0 : wc.cell? ⟨gb120, 0, none⟩ = some (.int .i64 a1_0) := (blk_cell BK120.out 0).trans rfl
               have hcz168_1 : wc.cell? ⟨gb120, 1, none⟩ = some (.int .i64 a1_1) := (blk_cell BK120.out 1).trans rfl
               have hcz168_2 : wc.cell? ⟨gb120, 2, none⟩ = some (.int .i64 a1_2) := (blk_cell BK120.out 2).trans rfl
               have hcz168_3 : wc.cell? ⟨gb120, 3, none⟩ = some (.slice A1_3 l1_3.length c1_3) := (blk_cell BK120.out 3).trans rfl
               have hfz168_0 := blk_frozen BK120.out 0
               have hfz168_1 := blk_frozen BK120.out 1
               have hfz168_2 := blk_frozen BK120.out 2
               have hfz168_3 := blk_frozen BK120.out 3
               go_wp2_with (first | ((with_reducible refine gate_callee (f := 35) rfl ?_); refine goesL_ (some 16) rfl rfl Tryd.func35 (by kernel_rfl) rfl #[.agg #[.slice A0_0 l0_0.length c0_0, .int .i64 a0_1, .int .i64 a0_2], .int .i64 a1_1] rfl (by (try simp only [List.map_toArray, List.map_cons, List.map_nil]); first | done | rfl | (simp only [List.length_drop, List.length_take]; rfl)) ?_; (with_reducible refine (spec_progTo.calls _ _ l0_0 a0_1 a0_2 a1_1 true _ ?side1 ?side2 A12.out).mono ?_); (case side1 => repeat (first | exact (Kd.C_below HR0_0.out HB.out) | (with_reducible refine Kd.C_alloc ?_ _) | (with_reducible refine Kd.C_drewN ?_ _) | (with_reducible refine Kd.C_drew ?_))); (case side2 => exact HC0_0.out); rintro e w169 ⟨rfl, hb⟩; refine ⟨_, rfl, ?_⟩; have n0_ := Aside0.mk (blk_below (g := gb119) (o := .cells #[.slice A0_0 l0_0.length c0_0, .int .i64 a0_1, .int .i64 a0_2] 24 (0, 0)) (by (with_reducible repeat (first | refine blk_drewN ?_ _ | refine blk_drew ?_ | refine blk_alloc ?_ _)); exact BK119.out) hb); have n1_ := Aside0.mk (blk_below (g := gb120) (o := .cells #[.int .i64 a1_0, .int .i64 a1_1, .int .i64 a1_2, .slice A1_3 l1_3.length c1_3] 55 (0, 0)) (by (with_reducible repeat (first | refine blk_drewN ?_ _ | refine blk_drew ?_ | refine blk_alloc ?_ _)); exact BK120.out) hb); have n2_ := Aside0.mk (below_step (by repeat (first | (with_reducible first | exact HB.out | apply below_alloc | apply pw_below_drewN | apply below_drew1 | refine below_set ?_ GE119.out | refine below_set ?_ GE120.out) | exact HB.out)) hb); clear BK119; clear BK120; clear HB; have BK119 := n0_; have BK120 := n1_; have HB := n2_; clear n0_ n1_ n2_; (try clear hb); (try clear hb2); (try clear hk); (try clear hi); have hcz170_0 : w169.cell? ⟨gb120, 0, none⟩ = some (.int .i64 a1_0) := (blk_cell BK120.out 0).trans rfl; have hcz170_1 : w169.cell? ⟨gb120, 1, none⟩ = some (.int .i64 a1_1) := (blk_cell BK120.out 1).trans rfl; have hcz170_2 : w169.cell? ⟨gb120, 2, none⟩ = some (.int .i64 a1_2) := (blk_cell BK120.out 2).trans rfl; have hcz170_3 : w169.cell? ⟨gb120, 3, none⟩ = some (.slice A1_3 l1_3.length c1_3) := (blk_cell BK120.out 3).trans rfl; have hfz170_0 := blk_frozen BK120.out 0; have hfz170_1 := blk_frozen BK120.out 1; have hfz170_2 := blk_frozen BK120.out 2; have hfz170_3 := blk_frozen BK120.out 3))
               go_ret
               exact ⟨by first | rfl | (simp [errW_none, errW_some] <;> rfl) | (simp [*, errW_none, errW_some] <;> rfl), by repeat (first | (with_reducible first | exact HB.out | apply below_alloc | apply pw_below_drewN | apply below_drew1 | refine below_set ?_ GE119.out | refine below_set ?_ GE120.out) | exact HB.out)⟩
            ·rw [if_neg c120] at H
             have c120b0 : (a1_0 == 7) = false := beq_eq_false_iff_ne.mpr c120
             have c120b1 : (a1_0 != 7) = true := bne_iff_ne.mpr c120
             obtain rfl := Option.some.inj H
             have hnb171 := NB119_120.out
             have hnc171 := NB120_119.out
             have hcz172_0 : wc.cell? ⟨gb119, 0, none⟩ = some (.slice A0_0 l0_0.length c0_0) := (blk_cell BK119.out 0).trans rfl
             have hcz172_1 : wc.cell? ⟨gb119, 1, none⟩ = some (.int .i64 a0_1) := (blk_cell BK119.out 1).trans rfl
             have hcz172_2 : wc.cell? ⟨gb119, 2, none⟩ = some (.int .i64 a0_2) := (blk_cell BK119.out 2).trans rfl
             have hfz172_0 := blk_frozen BK119.out 0
             have hfz172_1 := blk_frozen BK119.out 1
             have hfz172_2 := blk_frozen BK119.out 2
             have hcz173_0 : wc.cell? ⟨gb120, 0, none⟩ = some (.int .i64 a1_0) := (blk_cell BK120.out 0).trans rfl
             have hcz173_1 : wc.cell? ⟨gb120, 1, none⟩ = some (.int .i64 a1_1) := (blk_cell BK120.out 1).trans rfl
             have hcz173_2 : wc.cell? ⟨gb120, 2, none⟩ = some (.int .i64 a1_2) := (blk_cell BK120.out 2).trans rfl
             have hcz173_3 : wc.cell? ⟨gb120, 3, none⟩ = some (.slice A1_3 l1_3.length c1_3) := (blk_cell BK120.out 3).trans rfl
             have hfz173_0 := blk_frozen BK120.out 0
             have hfz173_1 := blk_frozen BK120.out 1
             have hfz173_2 := blk_frozen BK120.out 2
             have hfz173_3 := blk_frozen BK120.out 3
             go_wp2_with (first | ((with_reducible refine gate_callee (f := 35) rfl ?_); refine goesL_ (some 16) rfl rfl Tryd.func35 (by kernel_rfl) rfl #[.agg #[.slice A0_0 l0_0.length c0_0, .int .i64 a0_1, .int .i64 a0_2], .int .i64 a1_1] rfl (by (try simp only [List.map_toArray, List.map_cons, List.map_nil]); first | done | rfl | (simp only [List.length_drop, List.length_take]; rfl)) ?_; (with_reducible refine (spec_progTo.calls _ _ l0_0 a0_1 a0_2 a1_1 true _ ?side1 ?side2 A12.out).mono ?_); (case side1 => repeat (first | exact (Kd.C_below HR0_0.out HB.out) | (with_reducible refine Kd.C_alloc ?_ _) | (with_reducible refine Kd.C_drewN ?_ _) | (with_reducible refine Kd.C_drew ?_))); (case side2 => exact HC0_0.out); rintro e w174 ⟨rfl, hb⟩; refine ⟨_, rfl, ?_⟩; have n0_ := Aside0.mk (blk_below (g := gb119) (o := .cells #[.slice A0_0 l0_0.length c0_0, .int .i64 a0_1, .int .i64 a0_2] 24 (0, 0)) (by (with_reducible repeat (first | refine blk_drewN ?_ _ | refine blk_drew ?_ | refine blk_alloc ?_ _)); exact BK119.out) hb); have n1_ := Aside0.mk (blk_below (g := gb120) (o := .cells #[.int .i64 a1_0, .int .i64 a1_1, .int .i64 a1_2, .slice A1_3 l1_3.length c1_3] 55 (0, 0)) (by (with_reducible repeat (first | refine blk_drewN ?_ _ | refine blk_drew ?_ | refine blk_alloc ?_ _)); exact BK120.out) hb); have n2_ := Aside0.mk (below_step (by repeat (first | (with_reducible first | exact HB.out | apply below_alloc | apply pw_below_drewN | apply below_drew1 | refine below_set ?_ GE119.out | refine below_set ?_ GE120.out) | exact HB.out)) hb); clear BK119; clear BK120; clear HB; have BK119 := n0_; have BK120 := n1_; have HB := n2_; clear n0_ n1_ n2_; (try clear hb); (try clear hb2); (try clear hk); (try clear hi); have hcz175_0 : w174.cell? ⟨gb120, 0, none⟩ = some (.int .i64 a1_0) := (blk_cell BK120.out 0).trans rfl; have hcz175_1 : w174.cell? ⟨gb120, 1, none⟩ = some (.int .i64 a1_1) := (blk_cell BK120.out 1).trans rfl; have hcz175_2 : w174.cell? ⟨gb120, 2, none⟩ = some (.int .i64 a1_2) := (blk_cell BK120.out 2).trans rfl; have hcz175_3 : w174.cell? ⟨gb120, 3, none⟩ = some (.slice A1_3 l1_3.length c1_3) := (blk_cell BK120.out 3).trans rfl; have hfz175_0 := blk_frozen BK120.out 0; have hfz175_1 := blk_frozen BK120.out 1; have hfz175_2 := blk_frozen BK120.out 2; have hfz175_3 := blk_frozen BK120.out 3))
             go_ret
             exact ⟨by first | rfl | (simp [errW_none, errW_some] <;> rfl) | (simp [*, errW_none, errW_some] <;> rfl), by repeat (first | (with_reducible first | exact HB.out | apply below_alloc | apply pw_below_drewN | apply below_drew1 | refine below_set ?_ GE119.out | refine below_set ?_ GE120.out) | exact HB.out)⟩
    ·replace c13 := Bool.eq_false_iff.mpr c13
     subst c13
     have H1 : (some false) = some r := by rw [if_neg (show ¬ (false = true) by decide)] at H; exact H
     clear H
     have H := H1
     clear H1
     obtain rfl := Option.some.inj H
     have hnb176 := NB119_120.out
     have hnc176 := NB120_119.out
     have hcz177_0 : wc.cell? ⟨gb119, 0, none⟩ = some (.slice A0_0 l0_0.length c0_0) := (blk_cell BK119.out 0).trans rfl
     have hcz177_1 : wc.cell? ⟨gb119, 1, none⟩ = some (.int .i64 a0_1) := (blk_cell BK119.out 1).trans rfl
     have hcz177_2 : wc.cell? ⟨gb119, 2, none⟩ = some (.int .i64 a0_2) := (blk_cell BK119.out 2).trans rfl
     have hfz177_0 := blk_frozen BK119.out 0
     have hfz177_1 := blk_frozen BK119.out 1
     have hfz177_2 := blk_frozen BK119.out 2
     have hcz178_0 : wc.cell? ⟨gb120, 0, none⟩ = some (.int .i64 a1_0) := (blk_cell BK120.out 0).trans rfl
     have hcz178_1 : wc.cell? ⟨gb120, 1, none⟩ = some (.int .i64 a1_1) := (blk_cell BK120.out 1).trans rfl
     have hcz178_2 : wc.cell? ⟨gb120, 2, none⟩ = some (.int .i64 a1_2) := (blk_cell BK120.out 2).trans rfl
     have hcz178_3 : wc.cell? ⟨gb120, 3, none⟩ = some (.slice A1_3 l1_3.length c1_3) := (blk_cell BK120.out 3).trans rfl
     have hfz178_0 := blk_frozen BK120.out 0
     have hfz178_1 := blk_frozen BK120.out 1
     have hfz178_2 := blk_frozen BK120.out 2
     have hfz178_3 := blk_frozen BK120.out 3
     go_wp2_with (first | ((with_reducible refine gate_callee (f := 35) rfl ?_); refine goesL_ (some 16) rfl rfl Tryd.func35 (by kernel_rfl) rfl #[.agg #[.slice A0_0 l0_0.length c0_0, .int .i64 a0_1, .int .i64 a0_2], .int .i64 a1_1] rfl (by (try simp only [List.map_toArray, List.map_cons, List.map_nil]); first | done | rfl | (simp only [List.length_drop, List.length_take]; rfl)) ?_; (with_reducible refine (spec_progTo.calls _ _ l0_0 a0_1 a0_2 a1_1 false _ ?side1 ?side2 A12.out).mono ?_); (case side1 => repeat (first | exact (Kd.C_below HR0_0.out HB.out) | (with_reducible refine Kd.C_alloc ?_ _) | (with_reducible refine Kd.C_drewN ?_ _) | (with_reducible refine Kd.C_drew ?_))); (case side2 => exact HC0_0.out); rintro e w179 ⟨rfl, hb⟩; refine ⟨_, rfl, ?_⟩; have n0_ := Aside0.mk (blk_below (g := gb119) (o := .cells #[.slice A0_0 l0_0.length c0_0, .int .i64 a0_1, .int .i64 a0_2] 24 (0, 0)) (by (with_reducible repeat (first | refine blk_drewN ?_ _ | refine blk_drew ?_ | refine blk_alloc ?_ _)); exact BK119.out) hb); have n1_ := Aside0.mk (blk_below (g := gb120) (o := .cells #[.int .i64 a1_0, .int .i64 a1_1, .int .i64 a1_2, .slice A1_3 l1_3.length c1_3] 55 (0, 0)) (by (with_reducible repeat (first | refine blk_drewN ?_ _ | refine blk_drew ?_ | refine blk_alloc ?_ _)); exact BK120.out) hb); have n2_ := Aside0.mk (below_step (by repeat (first | (with_reducible first | exact HB.out | apply below_alloc | apply pw_below_drewN | apply below_drew1 | refine below_set ?_ GE119.out | refine below_set ?_ GE120.out) | exact HB.out)) hb); clear BK119; clear BK120; clear HB; have BK119 := n0_; have BK120 := n1_; have HB := n2_; clear n0_ n1_ n2_; (try clear hb); (try clear hb2); (try clear hk); (try clear hi)))
     go_ret
     exact ⟨by first | rfl | (simp [errW_none, errW_some] <;> rfl) | (simp [*, errW_none, errW_some] <;> rfl), by repeat (first | (with_reducible first | exact HB.out | apply below_alloc | apply pw_below_drewN | apply below_drew1 | refine below_set ?_ GE119.out | refine below_set ?_ GE120.out) | exact HB.out)⟩

end Go.Proofs.YtcncclglmgdinaaDoor.PFnPgStep
