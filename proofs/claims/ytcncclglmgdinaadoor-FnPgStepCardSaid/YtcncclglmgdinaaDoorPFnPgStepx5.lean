-- PRINTED BY print.sh 35421559b90ae4d0a3588c463048766b98c2df88dd9212a6774a882060cdf62d: not written by this session
import Derived.Test.YtcncclglmgdinaaDoorPFnPgStepx0
import Derived.Test.YtcncclglmgdinaaDoorPFnPgStepx4
namespace Go.Proofs.YtcncclglmgdinaaDoor.PFnPgStep
open Go.RowKit Go.Proofs.YtcncclglmgdinaaDoorW.PrintWords Go.Proofs.YtcncclglmgdinaaDoorW.PrintLast Go.Proofs.YtcncclglmgdinaaDoorW.PrintMore
attribute [local go_sem] max2_int min2_int max_two min_two max_three min_three max_four min_four   -- for this text's walks alone
set_option linter.unusedVariables false
set_option linter.unusedSimpArgs false

/-! ### laws_pgPut: function 6 -/
mutual
def laws_pgPut.j0 : Nat → List Int → Bool → List (S55) → Int → Int → Option (Bool)
 | 0, _, _, _, _, _ => none
 | k + 1, x1, x44, x150000, x150001, x150002 => if x44 = true then (some false) else (laws_pgPut.l0 k x1 (x1.length : Int) 0 x150000 x150001 x150002)
def laws_pgPut.l0 : Nat → List Int → Int → Int → List (S55) → Int → Int → Option (Bool)
 | 0, _, _, _, _, _, _ => none
 | k + 1, x45, x46, x47, x150000, x150001, x150002 => if x47 < x46 then (if 0 ≤ x47 then (if x47 < (x45.length : Int) then (if (rd x45 x47) < 0 then (some false) else (if (rd x45 x47) ≥ (x150000.length : Int) then (some false) else (laws_pgPut.l0 k x45 x46 (wrap64 (x47 + 1)) x150000 x150001 x150002))) else (none)) else (none)) else (some true)
end
def laws_pgPut.f (k : Nat) (l0_0 : List (S55)) (a0_1 : Int) (a0_2 : Int) (l1 : List Int) (a2 : Int) (a3 : Int) (a4 : Int) : Option (Bool) := if (l1.length : Int) > 100 then (laws_pgPut.j0 k l1 true l0_0 a0_1 a0_2) else ((spec_ProgSound.f k l0_0 a0_1 a0_2 2000).bind fun t150 => (if t150 = true then (if a2 < (-1) then (laws_pgPut.j0 k l1 true l0_0 a0_1 a0_2) else (if a3 < (-1) then (laws_pgPut.j0 k l1 true l0_0 a0_1 a0_2) else (if a4 < (-1) then (laws_pgPut.j0 k l1 true l0_0 a0_1 a0_2) else (if a2 > 1114111 then (laws_pgPut.j0 k l1 true l0_0 a0_1 a0_2) else (if a3 > 1114111 then (laws_pgPut.j0 k l1 true l0_0 a0_1 a0_2) else (laws_pgPut.j0 k l1 (decide (a4 > 1114111)) l0_0 a0_1 a0_2)))))) else (laws_pgPut.j0 k l1 true l0_0 a0_1 a0_2)))
theorem laws_pgPut.mono_l : ∀ k, (∀ y0 y1 y2 y3 y4, LeO (laws_pgPut.j0 k y0 y1 y2 y3 y4) (laws_pgPut.j0 (k + 1) y0 y1 y2 y3 y4)) ∧ (∀ y0 y1 y2 y3 y4 y5, LeO (laws_pgPut.l0 k y0 y1 y2 y3 y4 y5) (laws_pgPut.l0 (k + 1) y0 y1 y2 y3 y4 y5))
 | 0 => ⟨fun _ _ _ _ _ r h => by simp [laws_pgPut.j0] at h, fun _ _ _ _ _ _ r h => by simp [laws_pgPut.l0] at h⟩
 | k + 1 => by
  obtain ⟨ih0, ih1⟩ := laws_pgPut.mono_l k
  refine ⟨?_, ?_⟩
  ·intro y0 y1 y2 y3 y4
   unfold laws_pgPut.j0
   repeat' first
   | (with_reducible exact ih0 _ _ _ _ _)
   | (with_reducible exact ih1 _ _ _ _ _ _)
   | (with_reducible exact spec_ProgSound.mono _ _ _ _ _)
   | (with_reducible exact LeO.refl _)
   | (with_reducible exact LeO.none _)
   | (with_reducible refine LeO.ite ?_ ?_)
   | (with_reducible refine LeO.bind ?_ (fun _ => ?_))
   | exact ih0 _ _ _ _ _
   | exact ih1 _ _ _ _ _ _
   | exact spec_ProgSound.mono _ _ _ _ _
   | exact LeO.none _
   | refine LeO.ite ?_ ?_
   | refine LeO.bind ?_ (fun _ => ?_)
  ·intro y0 y1 y2 y3 y4 y5
   unfold laws_pgPut.l0
   repeat' first
   | (with_reducible exact ih0 _ _ _ _ _)
   | (with_reducible exact ih1 _ _ _ _ _ _)
   | (with_reducible exact spec_ProgSound.mono _ _ _ _ _)
   | (with_reducible exact LeO.refl _)
   | (with_reducible exact LeO.none _)
   | (with_reducible refine LeO.ite ?_ ?_)
   | (with_reducible refine LeO.bind ?_ (fun _ => ?_))
   | exact ih0 _ _ _ _ _
   | exact ih1 _ _ _ _ _ _
   | exact spec_ProgSound.mono _ _ _ _ _
   | exact LeO.none _
   | refine LeO.ite ?_ ?_
   | refine LeO.bind ?_ (fun _ => ?_)
theorem laws_pgPut.mono : ∀ a0 a1 a2 a3 a4 a5 a6 k, LeO (laws_pgPut.f k a0 a1 a2 a3 a4 a5 a6) (laws_pgPut.f (k + 1) a0 a1 a2 a3 a4 a5 a6) := by
 intro a0 a1 a2 a3 a4 a5 a6 k
 obtain ⟨ih0, ih1⟩ := laws_pgPut.mono_l k
 unfold laws_pgPut.f
 repeat' first
   | (with_reducible exact ih0 _ _ _ _ _)
   | (with_reducible exact ih1 _ _ _ _ _ _)
   | (with_reducible exact spec_ProgSound.mono _ _ _ _ _)
   | (with_reducible exact LeO.refl _)
   | (with_reducible exact LeO.none _)
   | (with_reducible refine LeO.ite ?_ ?_)
   | (with_reducible refine LeO.bind ?_ (fun _ => ?_))
   | exact ih0 _ _ _ _ _
   | exact ih1 _ _ _ _ _ _
   | exact spec_ProgSound.mono _ _ _ _ _
   | exact LeO.none _
   | refine LeO.ite ?_ ?_
   | refine LeO.bind ?_ (fun _ => ?_)
set_option maxHeartbeats 8000000 in
set_option maxRecDepth 100000 in
theorem laws_pgPut.calls (k : Nat) (A0_0 : Option Addr) (c0_0 : Nat) (l0_0 : List (S55)) (a0_1 : Int) (a0_2 : Int) (A1 : Option Addr) (c1 : Nat) (l1 : List Int) (a2 : Int) (a3 : Int) (a4 : Int) (r : Bool) (w : World) (hr0_0 : Kd.C k55 w A0_0 l0_0.length l0_0) (hc0_0 : l0_0.length ≤ c0_0) (hr1 : Kd.C (Kd.int .i64) w A1 l1.length l1) (hc1 : l1.length ≤ c1) (h : laws_pgPut.f k l0_0 a0_1 a0_2 l1 a2 a3 a4 = some r) :
  Calls Tryd.prog 6 #[.agg #[.slice A0_0 l0_0.length c0_0, .int .i64 a0_1, .int .i64 a0_2], .slice A1 l1.length c1, .int .i32 a2, .int .i32 a3, .int .i32 a4] w fun e w' => e = .returned (.bool r) ∧ Below w.heap.size w w' := by
 have hu24 := Tryd.underlying24
 have HR0_0 := Aside0.mk hr0_0
 have HC0_0 := Aside0.mk hc0_0
 clear hr0_0 hc0_0
 have HR1 := Aside0.mk hr1
 have HC1 := Aside0.mk hc1
 clear hr1 hc1
 have HB := Aside0.mk (Below.refl w.heap.size w)
 have H : (if (l1.length : Int) > 100 then (laws_pgPut.j0 k l1 true l0_0 a0_1 a0_2) else ((spec_ProgSound.f k l0_0 a0_1 a0_2 2000).bind fun t150 => (if t150 = true then (if a2 < (-1) then (laws_pgPut.j0 k l1 true l0_0 a0_1 a0_2) else (if a3 < (-1) then (laws_pgPut.j0 k l1 true l0_0 a0_1 a0_2) else (if a4 < (-1) then (laws_pgPut.j0 k l1 true l0_0 a0_1 a0_2) else (if a2 > 1114111 then (laws_pgPut.j0 k l1 true l0_0 a0_1 a0_2) else (if a3 > 1114111 then (laws_pgPut.j0 k l1 true l0_0 a0_1 a0_2) else (laws_pgPut.j0 k l1 (decide (a4 > 1114111)) l0_0 a0_1 a0_2)))))) else (laws_pgPut.j0 k l1 true l0_0 a0_1 a0_2)))) = some r := h
 clear h
 have HC6 := Aside0.mk H
 clear H
 go_enter Tryd.func6, Tryd.ntmps6
 go_upto_region 1 with (first | ((with_reducible refine gate_dst (N := 5) rfl ?_); (try (refine gate_guard (by rfl) ?_; dsimp only)); refine box_event ?hg (N := 5) ?hd (cs := #[.slice A0_0 l0_0.length c0_0, .int .i64 a0_1, .int .i64 a0_2]) (t := 24) ?hr ?_; (case hd => rfl); (case hg => rfl); (case hr => first | (go_simp; done) | (go_simp; rfl)); intro gb149 hg w7 hbox hb; have n0_ := Aside0.mk (below_step (by repeat (first | (with_reducible first | exact HB.out | apply below_alloc | apply pw_below_drewN | apply below_drew1) | exact HB.out)) hb); have n1_ := Aside0.mk (hbox); have n2_ := Aside0.mk ((by rw [hg]; exact (below_size (by repeat (first | (with_reducible first | exact HB.out | apply below_alloc | apply pw_below_drewN | apply below_drew1) | exact HB.out))) : w.heap.size ≤ gb149)); have n3_ := Aside0.mk ((by rw [hg]; exact (below_size (by repeat (first | (with_reducible first | exact HB.out | apply below_alloc | apply pw_below_drewN | apply below_drew1) | exact HB.out))) : w.heap.size ≤ gb149)); clear HB; have HB := n0_; have BK149 := n1_; have GW149 := n2_; have GE149 := n3_; clear n0_ n1_ n2_ n3_; clear hb hbox hg))
 (try simp only [Act.put, List.setIfInBounds_toArray, List.set_cons_zero, List.set_cons_succ])
 go_cut [44] (fun v44 wc => ∃ (kq : Nat) (x44_5 : Bool), v44 = .bool x44_5 ∧ Aside0 (laws_pgPut.j0 kq l1 x44_5 l0_0 a0_1 a0_2 = some r) ∧ Aside0 (kq ≤ k) ∧ Aside0 (wc.heap[gb149]? = some (.cells #[(.slice A0_0 l0_0.length c0_0), .int .i64 a0_1, .int .i64 a0_2] 24 (0, 0))) ∧ Aside0 (Below w.heap.size w wc))
 case first =>
  have H := HC6.out
  clear HC6
  by_cases c8 : (l1.length : Int) > 100
  ·rw [if_pos c8] at H
   have c8b0 : decide (100 < (l1.length : Int)) = true := decide_eq_true c8
   have c8b1 : decide (100 < l1.length) = true := decide_eq_true (by omega)
   clear c8
   (first | rw [c8b0] | (simp only [i64_w, i32_w]; rw [c8b0]) | skip)
   have H' := Aside0.mk H
   clear H
   go_wp2
   go_meet
   case rel => exact ⟨_, (true), (by first | rfl | (simp; done) | (simp [*]; done)), H', ⟨by first | omega | exact Nat.le_refl _⟩, ⟨by (with_reducible repeat (first | refine blk_drewN ?_ _ | refine blk_drew ?_ | refine blk_alloc ?_ _)); exact BK149.out⟩, ⟨by repeat (first | (with_reducible first | exact HB.out | apply below_alloc | apply pw_below_drewN | apply below_drew1 | refine below_set ?_ GE149.out) | exact HB.out)⟩⟩
  ·rw [if_neg c8] at H
   have c8b0 : decide (100 < (l1.length : Int)) = false := decide_eq_false c8
   have c8b1 : decide (100 < l1.length) = false := decide_eq_false (by omega)
   clear c8
   (first | rw [c8b0] | (simp only [i64_w, i32_w]; rw [c8b0]) | skip)
   replace H := Option.bind_eq_some_iff.mp H
   obtain ⟨t150, A90, H⟩ := H
   replace H : (if t150 = true then (if a2 < (-1) then (laws_pgPut.j0 k l1 true l0_0 a0_1 a0_2) else (if a3 < (-1) then (laws_pgPut.j0 k l1 true l0_0 a0_1 a0_2) else (if a4 < (-1) then (laws_pgPut.j0 k l1 true l0_0 a0_1 a0_2) else (if a2 > 1114111 then (laws_pgPut.j0 k l1 true l0_0 a0_1 a0_2) else (if a3 > 1114111 then (laws_pgPut.j0 k l1 true l0_0 a0_1 a0_2) else (laws_pgPut.j0 k l1 (decide (a4 > 1114111)) l0_0 a0_1 a0_2)))))) else (laws_pgPut.j0 k l1 true l0_0 a0_1 a0_2)) = some r := H
   have A9 := Aside0.mk A90
   clear A90
   by_cases c10 : t150 = true
   ·subst c10
    have H1 : (if a2 < (-1) then (laws_pgPut.j0 k l1 true l0_0 a0_1 a0_2) else (if a3 < (-1) then (laws_pgPut.j0 k l1 true l0_0 a0_1 a0_2) else (if a4 < (-1) then (laws_pgPut.j0 k l1 true l0_0 a0_1 a0_2) else (if a2 > 1114111 then (laws_pgPut.j0 k l1 true l0_0 a0_1 a0_2) else (if a3 > 1114111 then (laws_pgPut.j0 k l1 true l0_0 a0_1 a0_2) else (laws_pgPut.j0 k l1 (decide (a4 > 1114111)) l0_0 a0_1 a0_2)))))) = some r := by rw [if_pos rfl] at H; exact H
    clear H
    have H := H1
    clear H1
    by_cases c11 : a2 < (-1)
    ·rw [if_pos c11] at H
     have c11b0 : decide (a2 < (-1)) = true := decide_eq_true c11
     clear c11
     have H' := Aside0.mk H
     clear H
     have hcz12_0 : w7.cell? ⟨gb149, 0, none⟩ = some (.slice A0_0 l0_0.length c0_0) := (blk_cell BK149.out 0).trans rfl
     have hcz12_1 : w7.cell? ⟨gb149, 1, none⟩ = some (.int .i64 a0_1) := (blk_cell BK149.out 1).trans rfl
     have hcz12_2 : w7.cell? ⟨gb149, 2, none⟩ = some (.int .i64 a0_2) := (blk_cell BK149.out 2).trans rfl
     have hfz12_0 := blk_frozen BK149.out 0
     have hfz12_1 := blk_frozen BK149.out 1
     have hfz12_2 := blk_frozen BK149.out 2
     go_wp2_with (first | (go_at_call 17; (with_reducible refine (spec_ProgSound.calls k _ _ l0_0 a0_1 a0_2 2000 true _ ?side1 ?side2 A9.out).mono ?_); (case side1 => repeat (first | exact (Kd.C_below HR0_0.out HB.out) | (with_reducible refine Kd.C_alloc ?_ _) | (with_reducible refine Kd.C_drewN ?_ _) | (with_reducible refine Kd.C_drew ?_))); (case side2 => exact HC0_0.out); rintro e w13 ⟨rfl, hb⟩; have n0_ := Aside0.mk (blk_below (g := gb149) (o := .cells #[.slice A0_0 l0_0.length c0_0, .int .i64 a0_1, .int .i64 a0_2] 24 (0, 0)) (by (with_reducible repeat (first | refine blk_drewN ?_ _ | refine blk_drew ?_ | refine blk_alloc ?_ _)); exact BK149.out) hb); have n1_ := Aside0.mk (below_step (by repeat (first | (with_reducible first | exact HB.out | apply below_alloc | apply pw_below_drewN | apply below_drew1 | refine below_set ?_ GE149.out) | exact HB.out)) hb); clear BK149; clear HB; have BK149 := n0_; have HB := n1_; clear n0_ n1_; (try clear hb); (try clear hb2); (try clear hk); (try clear hi)))
     go_meet
     case rel => exact ⟨_, (true), (by first | rfl | (simp; done) | (simp [*]; done)), H', ⟨by first | omega | exact Nat.le_refl _⟩, ⟨by (with_reducible repeat (first | refine blk_drewN ?_ _ | refine blk_drew ?_ | refine blk_alloc ?_ _)); exact BK149.out⟩, ⟨by repeat (first | (with_reducible first | exact HB.out | apply below_alloc | apply pw_below_drewN | apply below_drew1 | refine below_set ?_ GE149.out) | exact HB.out)⟩⟩
    ·rw [if_neg c11] at H
     have c11b0 : decide (a2 < (-1)) = false := decide_eq_false c11
     clear c11
     by_cases c14 : a3 < (-1)
     ·rw [if_pos c14] at H
      have c14b0 : decide (a3 < (-1)) = true := decide_eq_true c14
      clear c14
      have H' := Aside0.mk H
      clear H
      have hcz15_0 : w7.cell? ⟨gb149, 0, none⟩ = some (.slice A0_0 l0_0.length c0_0) := (blk_cell BK149.out 0).trans rfl
      have hcz15_1 : w7.cell? ⟨gb149, 1, none⟩ = some (.int .i64 a0_1) := (blk_cell BK149.out 1).trans rfl
      have hcz15_2 : w7.cell? ⟨gb149, 2, none⟩ = some (.int .i64 a0_2) := (blk_cell BK149.out 2).trans rfl
      have hfz15_0 := blk_frozen BK149.out 0
      have hfz15_1 := blk_frozen BK149.out 1
      have hfz15_2 := blk_frozen BK149.out 2
      go_wp2_with (first | (go_at_call 17; (with_reducible refine (spec_ProgSound.calls k _ _ l0_0 a0_1 a0_2 2000 true _ ?side1 ?side2 A9.out).mono ?_); (case side1 => repeat (first | exact (Kd.C_below HR0_0.out HB.out) | (with_reducible refine Kd.C_alloc ?_ _) | (with_reducible refine Kd.C_drewN ?_ _) | (with_reducible refine Kd.C_drew ?_))); (case side2 => exact HC0_0.out); rintro e w16 ⟨rfl, hb⟩; have n0_ := Aside0.mk (blk_below (g := gb149) (o := .cells #[.slice A0_0 l0_0.length c0_0, .int .i64 a0_1, .int .i64 a0_2] 24 (0, 0)) (by (with_reducible repeat (first | refine blk_drewN ?_ _ | refine blk_drew ?_ | refine blk_alloc ?_ _)); exact BK149.out) hb); have n1_ := Aside0.mk (below_step (by repeat (first | (with_reducible first | exact HB.out | apply below_alloc | apply pw_below_drewN | apply below_drew1 | refine below_set ?_ GE149.out) | exact HB.out)) hb); clear BK149; clear HB; have BK149 := n0_; have HB := n1_; clear n0_ n1_; (try clear hb); (try clear hb2); (try clear hk); (try clear hi)))
      go_meet
      case rel => exact ⟨_, (true), (by first | rfl | (simp; done) | (simp [*]; done)), H', ⟨by first | omega | exact Nat.le_refl _⟩, ⟨by (with_reducible repeat (first | refine blk_drewN ?_ _ | refine blk_drew ?_ | refine blk_alloc ?_ _)); exact BK149.out⟩, ⟨by repeat (first | (with_reducible first | exact HB.out | apply below_alloc | apply pw_below_drewN | apply below_drew1 | refine below_set ?_ GE149.out) | exact HB.out)⟩⟩
     ·rw [if_neg c14] at H
      have c14b0 : decide (a3 < (-1)) = false := decide_eq_false c14
      clear c14
      by_cases c17 : a4 < (-1)
      ·rw [if_pos c17] at H
       have c17b0 : decide (a4 < (-1)) = true := decide_eq_true c17
       clear c17
       have H' := Aside0.mk H
       clear H
       have hcz18_0 : w7.cell? ⟨gb149, 0, none⟩ = some (.slice A0_0 l0_0.length c0_0) := (blk_cell BK149.out 0).trans rfl
       have hcz18_1 : w7.cell? ⟨gb149, 1, none⟩ = some (.int .i64 a0_1) := (blk_cell BK149.out 1).trans rfl
       have hcz18_2 : w7.cell? ⟨gb149, 2, none⟩ = some (.int .i64 a0_2) := (blk_cell BK149.out 2).trans rfl
       have hfz18_0 := blk_frozen BK149.out 0
       have hfz18_1 := blk_frozen BK149.out 1
       have hfz18_2 := blk_frozen BK149.out 2
       go_wp2_with (first | (go_at_call 17; (with_reducible refine (spec_ProgSound.calls k _ _ l0_0 a0_1 a0_2 2000 true _ ?side1 ?side2 A9.out).mono ?_); (case side1 => repeat (first | exact (Kd.C_below HR0_0.out HB.out) | (with_reducible refine Kd.C_alloc ?_ _) | (with_reducible refine Kd.C_drewN ?_ _) | (with_reducible refine Kd.C_drew ?_))); (case side2 => exact HC0_0.out); rintro e w19 ⟨rfl, hb⟩; have n0_ := Aside0.mk (blk_below (g := gb149) (o := .cells #[.slice A0_0 l0_0.length c0_0, .int .i64 a0_1, .int .i64 a0_2] 24 (0, 0)) (by (with_reducible repeat (first | refine blk_drewN ?_ _ | refine blk_drew ?_ | refine blk_alloc ?_ _)); exact BK149.out) hb); have n1_ := Aside0.mk (below_step (by repeat (first | (with_reducible first | exact HB.out | apply below_alloc | apply pw_below_drewN | apply below_drew1 | refine below_set ?_ GE149.out) | exact HB.out)) hb); clear BK149; clear HB; have BK149 := n0_; have HB := n1_; clear n0_ n1_; (try clear hb); (try clear hb2); (try clear hk); (try clear hi)))
       go_meet
       case rel => exact ⟨_, (true), (by first | rfl | (simp; done) | (simp [*]; done)), H', ⟨by first | omega | exact Nat.le_refl _⟩, ⟨by (with_reducible repeat (first | refine blk_drewN ?_ _ | refine blk_drew ?_ | refine blk_alloc ?_ _)); exact BK149.out⟩, ⟨by repeat (first | (with_reducible first | exact HB.out | apply below_alloc | apply pw_below_drewN | apply below_drew1 | refine below_set ?_ GE149.out) | exact HB.out)⟩⟩
      ·rw [if_neg c17] at H
       have c17b0 : decide (a4 < (-1)) = false := decide_eq_false c17
       clear c17
       by_cases c20 : a2 > 1114111
       ·rw [if_pos c20] at H
        have c20b0 : decide (1114111 < a2) = true := decide_eq_true c20
        clear c20
        have H' := Aside0.mk H
        clear H
        have hcz21_0 : w7.cell? ⟨gb149, 0, none⟩ = some (.slice A0_0 l0_0.length c0_0) := (blk_cell BK149.out 0).trans rfl
        have hcz21_1 : w7.cell? ⟨gb149, 1, none⟩ = some (.int .i64 a0_1) := (blk_cell BK149.out 1).trans rfl
        have hcz21_2 : w7.cell? ⟨gb149, 2, none⟩ = some (.int .i64 a0_2) := (blk_cell BK149.out 2).trans rfl
        have hfz21_0 := blk_frozen BK149.out 0
        have hfz21_1 := blk_frozen BK149.out 1
        have hfz21_2 := blk_frozen BK149.out 2
        go_wp2_with (first | (go_at_call 17; (with_reducible refine (spec_ProgSound.calls k _ _ l0_0 a0_1 a0_2 2000 true _ ?side1 ?side2 A9.out).mono ?_); (case side1 => repeat (first | exact (Kd.C_below HR0_0.out HB.out) | (with_reducible refine Kd.C_alloc ?_ _) | (with_reducible refine Kd.C_drewN ?_ _) | (with_reducible refine Kd.C_drew ?_))); (case side2 => exact HC0_0.out); rintro e w22 ⟨rfl, hb⟩; have n0_ := Aside0.mk (blk_below (g := gb149) (o := .cells #[.slice A0_0 l0_0.length c0_0, .int .i64 a0_1, .int .i64 a0_2] 24 (0, 0)) (by (with_reducible repeat (first | refine blk_drewN ?_ _ | refine blk_drew ?_ | refine blk_alloc ?_ _)); exact BK149.out) hb); have n1_ := Aside0.mk (below_step (by repeat (first | (with_reducible first | exact HB.out | apply below_alloc | apply pw_below_drewN | apply below_drew1 | refine below_set ?_ GE149.out) | exact HB.out)) hb); clear BK149; clear HB; have BK149 := n0_; have HB := n1_; clear n0_ n1_; (try clear hb); (try clear hb2); (try clear hk); (try clear hi)))
        go_meet
        case rel => exact ⟨_, (true), (by first | rfl | (simp; done) | (simp [*]; done)), H', ⟨by first | omega | exact Nat.le_refl _⟩, ⟨by (with_reducible repeat (first | refine blk_drewN ?_ _ | refine blk_drew ?_ | refine blk_alloc ?_ _)); exact BK149.out⟩, ⟨by repeat (first | (with_reducible first | exact HB.out | apply below_alloc | apply pw_below_drewN | apply below_drew1 | refine below_set ?_ GE149.out) | exact HB.out)⟩⟩
       ·rw [if_neg c20] at H
        have c20b0 : decide (1114111 < a2) = false := decide_eq_false c20
        clear c20
        by_cases c23 : a3 > 1114111
        ·rw [if_pos c23] at H
         have c23b0 : decide (1114111 < a3) = true := decide_eq_true c23
         clear c23
         have H' := Aside0.mk H
         clear H
         have hcz24_0 : w7.cell? ⟨gb149, 0, none⟩ = some (.slice A0_0 l0_0.length c0_0) := (blk_cell BK149.out 0).trans rfl
         have hcz24_1 : w7.cell? ⟨gb149, 1, none⟩ = some (.int .i64 a0_1) := (blk_cell BK149.out 1).trans rfl
         have hcz24_2 : w7.cell? ⟨gb149, 2, none⟩ = some (.int .i64 a0_2) := (blk_cell BK149.out 2).trans rfl
         have hfz24_0 := blk_frozen BK149.out 0
         have hfz24_1 := blk_frozen BK149.out 1
         have hfz24_2 := blk_frozen BK149.out 2
         go_wp2_with (first | (go_at_call 17; (with_reducible refine (spec_ProgSound.calls k _ _ l0_0 a0_1 a0_2 2000 true _ ?side1 ?side2 A9.out).mono ?_); (case side1 => repeat (first | exact (Kd.C_below HR0_0.out HB.out) | (with_reducible refine Kd.C_alloc ?_ _) | (with_reducible refine Kd.C_drewN ?_ _) | (with_reducible refine Kd.C_drew ?_))); (case side2 => exact HC0_0.out); rintro e w25 ⟨rfl, hb⟩; have n0_ := Aside0.mk (blk_below (g := gb149) (o := .cells #[.slice A0_0 l0_0.length c0_0, .int .i64 a0_1, .int .i64 a0_2] 24 (0, 0)) (by (with_reducible repeat (first | refine blk_drewN ?_ _ | refine blk_drew ?_ | refine blk_alloc ?_ _)); exact BK149.out) hb); have n1_ := Aside0.mk (below_step (by repeat (first | (with_reducible first | exact HB.out | apply below_alloc | apply pw_below_drewN | apply below_drew1 | refine below_set ?_ GE149.out) | exact HB.out)) hb); clear BK149; clear HB; have BK149 := n0_; have HB := n1_; clear n0_ n1_; (try clear hb); (try clear hb2); (try clear hk); (try clear hi)))
         go_meet
         case rel => exact ⟨_, (true), (by first | rfl | (simp; done) | (simp [*]; done)), H', ⟨by first | omega | exact Nat.le_refl _⟩, ⟨by (with_reducible repeat (first | refine blk_drewN ?_ _ | refine blk_drew ?_ | refine blk_alloc ?_ _)); exact BK149.out⟩, ⟨by repeat (first | (with_reducible first | exact HB.out | apply below_alloc | apply pw_below_drewN | apply below_drew1 | refine below_set ?_ GE149.out) | exact HB.out)⟩⟩
        ·rw [if_neg c23] at H
         have c23b0 : decide (1114111 < a3) = false := decide_eq_false c23
         clear c23
         have H' := Aside0.mk H
         clear H
         have hcz26_0 : w7.cell? ⟨gb149, 0, none⟩ = some (.slice A0_0 l0_0.length c0_0) := (blk_cell BK149.out 0).trans rfl
         have hcz26_1 : w7.cell? ⟨gb149, 1, none⟩ = some (.int .i64 a0_1) := (blk_cell BK149.out 1).trans rfl
         have hcz26_2 : w7.cell? ⟨gb149, 2, none⟩ = some (.int .i64 a0_2) := (blk_cell BK149.out 2).trans rfl
         have hfz26_0 := blk_frozen BK149.out 0
         have hfz26_1 := blk_frozen BK149.out 1
         have hfz26_2 := blk_frozen BK149.out 2
         go_wp2_with (first | (go_at_call 17; (with_reducible refine (spec_ProgSound.calls k _ _ l0_0 a0_1 a0_2 2000 true _ ?side1 ?side2 A9.out).mono ?_); (case side1 => repeat (first | exact (Kd.C_below HR0_0.out HB.out) | (with_reducible refine Kd.C_alloc ?_ _) | (with_reducible refine Kd.C_drewN ?_ _) | (with_reducible refine Kd.C_drew ?_))); (case side2 => exact HC0_0.out); rintro e w27 ⟨rfl, hb⟩; have n0_ := Aside0.mk (blk_below (g := gb149) (o := .cells #[.slice A0_0 l0_0.length c0_0, .int .i64 a0_1, .int .i64 a0_2] 24 (0, 0)) (by (with_reducible repeat (first | refine blk_drewN ?_ _ | refine blk_drew ?_ | refine blk_alloc ?_ _)); exact BK149.out) hb); have n1_ := Aside0.mk (below_step (by repeat (first | (with_reducible first | exact HB.out | apply below_alloc | apply pw_below_drewN | apply below_drew1 | refine below_set ?_ GE149.out) | exact HB.out)) hb); clear BK149; clear HB; have BK149 := n0_; have HB := n1_; clear n0_ n1_; (try clear hb); (try clear hb2); (try clear hk); (try clear hi)))
         go_meet
         case rel => exact ⟨_, (decide (a4 > 1114111)), (by first | rfl | (simp; done) | (simp [*]; done)), H', ⟨by first | omega | exact Nat.le_refl _⟩, ⟨by (with_reducible repeat (first | refine blk_drewN ?_ _ | refine blk_drew ?_ | refine blk_alloc ?_ _)); exact BK149.out⟩, ⟨by repeat (first | (with_reducible first | exact HB.out | apply below_alloc | apply pw_below_drewN | apply below_drew1 | refine below_set ?_ GE149.out) | exact HB.out)⟩⟩
   ·replace c10 := Bool.eq_false_iff.mpr c10
    subst c10
    have H1 : (laws_pgPut.j0 k l1 true l0_0 a0_1 a0_2) = some r := by rw [if_neg (show ¬ (false = true) by decide)] at H; exact H
    clear H
    have H := H1
    clear H1
    have H' := Aside0.mk H
    clear H
    have hcz28_0 : w7.cell? ⟨gb149, 0, none⟩ = some (.slice A0_0 l0_0.length c0_0) := (blk_cell BK149.out 0).trans rfl
    have hcz28_1 : w7.cell? ⟨gb149, 1, none⟩ = some (.int .i64 a0_1) := (blk_cell BK149.out 1).trans rfl
    have hcz28_2 : w7.cell? ⟨gb149, 2, none⟩ = some (.int .i64 a0_2) := (blk_cell BK149.out 2).trans rfl
    have hfz28_0 := blk_frozen BK149.out 0
    have hfz28_1 := blk_frozen BK149.out 1
    have hfz28_2 := blk_frozen BK149.out 2
    go_wp2_with (first | (go_at_call 17; (with_reducible refine (spec_ProgSound.calls k _ _ l0_0 a0_1 a0_2 2000 false _ ?side1 ?side2 A9.out).mono ?_); (case side1 => repeat (first | exact (Kd.C_below HR0_0.out HB.out) | (with_reducible refine Kd.C_alloc ?_ _) | (with_reducible refine Kd.C_drewN ?_ _) | (with_reducible refine Kd.C_drew ?_))); (case side2 => exact HC0_0.out); rintro e w29 ⟨rfl, hb⟩; have n0_ := Aside0.mk (blk_below (g := gb149) (o := .cells #[.slice A0_0 l0_0.length c0_0, .int .i64 a0_1, .int .i64 a0_2] 24 (0, 0)) (by (with_reducible repeat (first | refine blk_drewN ?_ _ | refine blk_drew ?_ | refine blk_alloc ?_ _)); exact BK149.out) hb); have n1_ := Aside0.mk (below_step (by repeat (first | (with_reducible first | exact HB.out | apply below_alloc | apply pw_below_drewN | apply below_drew1 | refine below_set ?_ GE149.out) | exact HB.out)) hb); clear BK149; clear HB; have BK149 := n0_; have HB := n1_; clear n0_ n1_; (try clear hb); (try clear hb2); (try clear hk); (try clear hi)))
    go_meet
    case rel => exact ⟨_, (true), (by first | rfl | (simp; done) | (simp [*]; done)), H', ⟨by first | omega | exact Nat.le_refl _⟩, ⟨by (with_reducible repeat (first | refine blk_drewN ?_ _ | refine blk_drew ?_ | refine blk_alloc ?_ _)); exact BK149.out⟩, ⟨by repeat (first | (with_reducible first | exact HB.out | apply below_alloc | apply pw_below_drewN | apply below_drew1 | refine below_set ?_ GE149.out) | exact HB.out)⟩⟩
 case rest =>
  clear HC6
  try clear c1
  try clear c2
  try clear p2
  try clear c6
  try clear c8
  try clear c8b0
  try clear c8b1
  try clear c10
  try clear c11
  try clear c11b0
  try clear c14
  try clear c14b0
  try clear c17
  try clear c17b0
  try clear c20
  try clear c20b0
  try clear c23
  try clear c23b0
  try clear hcz12_0
  try clear hcz12_1
  try clear hcz12_2
  try clear hcz15_0
  try clear hcz15_1
  try clear hcz15_2
  try clear hcz18_0
  try clear hcz18_1
  try clear hcz18_2
  try clear hcz21_0
  try clear hcz21_1
  try clear hcz21_2
  try clear hcz24_0
  try clear hcz24_1
  try clear hcz24_2
  try clear hcz26_0
  try clear hcz26_1
  try clear hcz26_2
  try clear hcz28_0
  try clear hcz28_1
  try clear hcz28_2
  try clear hfz12_0
  try clear hfz12_1
  try clear hfz12_2
  try clear hfz15_0
  try clear hfz15_1
  try clear hfz15_2
  try clear hfz18_0
  try clear hfz18_1
  try clear hfz18_2
  try clear hfz21_0
  try clear hfz21_1
  try clear hfz21_2
  try clear hfz24_0
  try clear hfz24_1
  try clear hfz24_2
  try clear hfz26_0
  try clear hfz26_1
  try clear hfz26_2
  try clear hfz28_0
  try clear hfz28_1
  try clear hfz28_2
  obtain ⟨kq, x44_5, rfl, HA, HJ5, BK149, HB⟩ := hcut
  cases kq with
  | zero => exact absurd HA.out (by simp [laws_pgPut.j0])
  | succ kj5 =>
   have H := HA.out
   clear HA
   simp only [laws_pgPut.j0] at H
   by_cases c30 : x44_5 = true
   ·subst c30
    have H1 : (some false) = some r := by rw [if_pos rfl] at H; exact H
    clear H
    have H := H1
    clear H1
    obtain rfl := Option.some.inj H
    go_wp2
    go_ret
    exact ⟨by first | rfl | (simp [errW_none, errW_some] <;> rfl) | (simp [*, errW_none, errW_some] <;> rfl), by repeat (first | (with_reducible first | exact HB.out | apply below_alloc | apply pw_below_drewN | apply below_drew1 | refine below_set ?_ GE149.out) | exact HB.out)⟩
   ·replace c30 := Bool.eq_false_iff.mpr c30
    subst c30
    have H1 : (laws_pgPut.l0 kj5 l1 (l1.length : Int) 0 l0_0 a0_1 a0_2) = some r := by rw [if_neg (show ¬ (false = true) by decide)] at H; exact H
    clear H
    have H := H1
    clear H1
    have H' := Aside0.mk H
    clear H
    go_wp2
    go_loopg [47] kj5 (fun kq v47 w' => ∃ (x47_2 : Int), v47 = .int .i64 x47_2 ∧ Aside0 (laws_pgPut.l0 kq l1 (l1.length : Int) x47_2 l0_0 a0_1 a0_2 = some r) ∧ Aside0 (kq ≤ kj5) ∧ Aside0 (w'.heap[gb149]? = some (.cells #[(.slice A0_0 l0_0.length c0_0), .int .i64 a0_1, .int .i64 a0_2] 24 (0, 0))) ∧ Aside0 (Below w.heap.size w w'))
    case atStart => exact ⟨(0), (by first | rfl | (simp; done) | (simp [*]; done)), H', ⟨Nat.le_refl _⟩, ⟨by (with_reducible repeat (first | refine blk_drewN ?_ _ | refine blk_drew ?_ | refine blk_alloc ?_ _)); exact BK149.out⟩, ⟨by repeat (first | (with_reducible first | exact HB.out | apply below_alloc | apply pw_below_drewN | apply below_drew1 | refine below_set ?_ GE149.out) | exact HB.out)⟩⟩
    case round =>
     clear H'
     try clear c1
     try clear c2
     try clear p2
     try clear c3
     try clear c6
     try clear c8
     try clear c8b0
     try clear c8b1
     try clear c10
     try clear c11
     try clear c11b0
     try clear c14
     try clear c14b0
     try clear c17
     try clear c17b0
     try clear c20
     try clear c20b0
     try clear c23
     try clear c23b0
     try clear c30
     try clear hcz12_0
     try clear hcz12_1
     try clear hcz12_2
     try clear hcz15_0
     try clear hcz15_1
     try clear hcz15_2
     try clear hcz18_0
     try clear hcz18_1
     try clear hcz18_2
     try clear hcz21_0
     try clear hcz21_1
     try clear hcz21_2
     try clear hcz24_0
     try clear hcz24_1
     try clear hcz24_2
     try clear hcz26_0
     try clear hcz26_1
     try clear hcz26_2
     try clear hcz28_0
     try clear hcz28_1
     try clear hcz28_2
     try clear hfz12_0
     try clear hfz12_1
     try clear hfz12_2
     try clear hfz15_0
     try clear hfz15_1
     try clear hfz15_2
     try clear hfz18_0
     try clear hfz18_1
     try clear hfz18_2
     try clear hfz21_0
     try clear hfz21_1
     try clear hfz21_2
     try clear hfz24_0
     try clear hfz24_1
     try clear hfz24_2
     try clear hfz26_0
     try clear hfz26_1
     try clear hfz26_2
     try clear hfz28_0
     try clear hfz28_1
     try clear hfz28_2
     try clear p2
     obtain ⟨x47_2, rfl, HA, HK2, BK149, HB⟩ := hrel
     cases gk with
     | zero => exact absurd HA.out (by simp [laws_pgPut.l0])
     | succ k2 =>
      have H := HA.out
      clear HA
      simp only [laws_pgPut.l0] at H
      by_cases c31 : x47_2 < (l1.length : Int)
      ·rw [if_pos c31] at H
       have c31b0 : decide (x47_2 < (l1.length : Int)) = true := decide_eq_true c31
       clear c31
       by_cases c32 : 0 ≤ x47_2
       ·rw [if_pos c32] at H
        have c32b0 : decide (0 ≤ x47_2) = true := decide_eq_true c32
        clear c32
        by_cases c33 : x47_2 < (l1.length : Int)
        ·rw [if_pos c33] at H
         have c33b0 : decide (x47_2 < (l1.length : Int)) = true := decide_eq_true c33
         clear c33
         by_cases c34 : (rd l1 x47_2) < 0
         ·rw [if_pos c34] at H
          have c34b0 : decide ((rd l1 x47_2) < 0) = true := decide_eq_true c34
          clear c34
          obtain rfl := Option.some.inj H
          have p151 : 0 ≤ (x47_2 : Int) := of_decide_eq_true (by first | (with_reducible assumption) | assumption)
          have q151 : x47_2 < (l1.length : Int) := of_decide_eq_true (by first | (with_reducible assumption) | assumption)
          obtain ⟨ad151, e151, hx151_0⟩ := Kd.at_int HR1.out x47_2 p151 q151
          cases e151
          replace hx151_0 := (HB.out.cell (World.block_lt_of_cell? w _ hx151_0)).trans hx151_0
          replace p151 := eq_true p151
          replace q151 := eq_true q151
          go_wp2
          go_ret
          exact ⟨by first | rfl | (simp [errW_none, errW_some] <;> rfl) | (simp [*, errW_none, errW_some] <;> rfl), by repeat (first | (with_reducible first | exact HB.out | apply below_alloc | apply pw_below_drewN | apply below_drew1 | refine below_set ?_ GE149.out) | exact HB.out)⟩
         ·rw [if_neg c34] at H
          have c34b0 : decide ((rd l1 x47_2) < 0) = false := decide_eq_false c34
          clear c34
          by_cases c35 : (rd l1 x47_2) ≥ (l0_0.length : Int)
          ·rw [if_pos c35] at H
           have c35b0 : decide ((l0_0.length : Int) ≤ (rd l1 x47_2)) = true := decide_eq_true c35
           clear c35
           obtain rfl := Option.some.inj H
           have p151 : 0 ≤ (x47_2 : Int) := of_decide_eq_true (by first | (with_reducible assumption) | assumption)
           have q151 : x47_2 < (l1.length : Int) := of_decide_eq_true (by first | (with_reducible assumption) | assumption)
           obtain ⟨ad151, e151, hx151_0⟩ := Kd.at_int HR1.out x47_2 p151 q151
           cases e151
           replace hx151_0 := (HB.out.cell (World.block_lt_of_cell? w _ hx151_0)).trans hx151_0
           replace p151 := eq_true p151
           replace q151 := eq_true q151
           have hcz36_0 : wr.cell? ⟨gb149, 0, none⟩ = some (.slice A0_0 l0_0.length c0_0) := (blk_cell BK149.out 0).trans rfl
           have hcz36_1 : wr.cell? ⟨gb149, 1, none⟩ = some (.int .i64 a0_1) := (blk_cell BK149.out 1).trans rfl
           have hcz36_2 : wr.cell? ⟨gb149, 2, none⟩ = some (.int .i64 a0_2) := (blk_cell BK149.out 2).trans rfl
           have hfz36_0 := blk_frozen BK149.out 0
           have hfz36_1 := blk_frozen BK149.out 1
           have hfz36_2 := blk_frozen BK149.out 2
           go_wp2
           go_ret
           exact ⟨by first | rfl | (simp [errW_none, errW_some] <;> rfl) | (simp [*, errW_none, errW_some] <;> rfl), by repeat (first | (with_reducible first | exact HB.out | apply below_alloc | apply pw_below_drewN | apply below_drew1 | refine below_set ?_ GE149.out) | exact HB.out)⟩
          ·rw [if_neg c35] at H
           have c35b0 : decide ((l0_0.length : Int) ≤ (rd l1 x47_2)) = false := decide_eq_false c35
           clear c35
           have H' := Aside0.mk H
           clear H
           have p151 : 0 ≤ (x47_2 : Int) := of_decide_eq_true (by first | (with_reducible assumption) | assumption)
           have q151 : x47_2 < (l1.length : Int) := of_decide_eq_true (by first | (with_reducible assumption) | assumption)
           obtain ⟨ad151, e151, hx151_0⟩ := Kd.at_int HR1.out x47_2 p151 q151
           cases e151
           replace hx151_0 := (HB.out.cell (World.block_lt_of_cell? w _ hx151_0)).trans hx151_0
           replace p151 := eq_true p151
           replace q151 := eq_true q151
           have hcz37_0 : wr.cell? ⟨gb149, 0, none⟩ = some (.slice A0_0 l0_0.length c0_0) := (blk_cell BK149.out 0).trans rfl
           have hcz37_1 : wr.cell? ⟨gb149, 1, none⟩ = some (.int .i64 a0_1) := (blk_cell BK149.out 1).trans rfl
           have hcz37_2 : wr.cell? ⟨gb149, 2, none⟩ = some (.int .i64 a0_2) := (blk_cell BK149.out 2).trans rfl
           have hfz37_0 := blk_frozen BK149.out 0
           have hfz37_1 := blk_frozen BK149.out 1
           have hfz37_2 := blk_frozen BK149.out 2
           go_wp2
           go_roundg k2
           case measure => have := HJ5.out; have := HK2.out; omega
           case rel => exact ⟨(wrap64 (x47_2 + 1)), (by first | rfl | (simp; done) | (simp [*]; done)), H', ⟨by have := HJ5.out; have := HK2.out; omega⟩, ⟨by (with_reducible repeat (first | refine blk_drewN ?_ _ | refine blk_drew ?_ | refine blk_alloc ?_ _)); exact BK149.out⟩, ⟨by repeat (first | (with_reducible first | exact HB.out | apply below_alloc | apply pw_below_drewN | apply below_drew1 | refine below_set ?_ GE149.out) | exact HB.out)⟩⟩
        ·rw [if_neg c33] at H
         exact absurd H (by simp)
       ·rw [if_neg c32] at H
        exact absurd H (by simp)
      ·rw [if_neg c31] at H
       have c31b0 : decide (x47_2 < (l1.length : Int)) = false := decide_eq_false c31
       clear c31
       obtain rfl := Option.some.inj H
       go_wp2
       go_ret
       exact ⟨by first | rfl | (simp [errW_none, errW_some] <;> rfl) | (simp [*, errW_none, errW_some] <;> rfl), by repeat (first | (with_reducible first | exact HB.out | apply below_alloc | apply pw_below_drewN | apply below_drew1 | refine below_set ?_ GE149.out) | exact HB.out)⟩

/-! ### impl_characters: function 73 -/
def impl_characters.l0 : Nat → List Int → Int → Int → Option (Bool)
 | 0, _, _, _ => none
 | k + 1, x5, x6, x7 => if x7 < x6 then (if 0 ≤ x7 then (if x7 < (x5.length : Int) then (if (rd x5 x7) < 0 then (some false) else (if (rd x5 x7) > 1114111 then (some false) else (impl_characters.l0 k x5 x6 (wrap64 (x7 + 1))))) else (none)) else (none)) else (some true)
def impl_characters.f (k : Nat) (l0 : List Int) : Option (Bool) := impl_characters.l0 k l0 (l0.length : Int) 0
theorem impl_characters.mono_l : ∀ k, (∀ y0 y1 y2, LeO (impl_characters.l0 k y0 y1 y2) (impl_characters.l0 (k + 1) y0 y1 y2))
 | 0 => fun _ _ _ r h => by simp [impl_characters.l0] at h
 | k + 1 => by
  have ih0 := impl_characters.mono_l k
  ·intro y0 y1 y2
   unfold impl_characters.l0
   repeat' first
   | (with_reducible exact ih0 _ _ _)
   | (with_reducible exact LeO.refl _)
   | (with_reducible exact LeO.none _)
   | (with_reducible refine LeO.ite ?_ ?_)
   | (with_reducible refine LeO.bind ?_ (fun _ => ?_))
   | exact ih0 _ _ _
   | exact LeO.none _
   | refine LeO.ite ?_ ?_
   | refine LeO.bind ?_ (fun _ => ?_)
theorem impl_characters.mono : ∀ a0 k, LeO (impl_characters.f k a0) (impl_characters.f (k + 1) a0) := by
 intro a0 k
 have ih0 := impl_characters.mono_l k
 unfold impl_characters.f
 repeat' first
   | (with_reducible exact ih0 _ _ _)
   | (with_reducible exact LeO.refl _)
   | (with_reducible exact LeO.none _)
   | (with_reducible refine LeO.ite ?_ ?_)
   | (with_reducible refine LeO.bind ?_ (fun _ => ?_))
   | exact ih0 _ _ _
   | exact LeO.none _
   | refine LeO.ite ?_ ?_
   | refine LeO.bind ?_ (fun _ => ?_)
set_option maxHeartbeats 8000000 in
set_option maxRecDepth 100000 in
theorem impl_characters.calls (k : Nat) (A0 : Option Addr) (c0 : Nat) (l0 : List Int) (r : Bool) (w : World) (hr0 : Kd.C (Kd.int .i32) w A0 l0.length l0) (hc0 : l0.length ≤ c0) (h : impl_characters.f k l0 = some r) :
  Calls Tryd.prog 73 #[.slice A0 l0.length c0] w fun e w' => e = .returned (.bool r) ∧ Drawn0 w w' := by
 have HR0 := Aside0.mk hr0
 have HC0 := Aside0.mk hc0
 clear hr0 hc0
 have H : (impl_characters.l0 k l0 (l0.length : Int) 0) = some r := h
 clear h
 have H' := Aside0.mk H
 clear H
 go_enter Tryd.func73, Tryd.ntmps73
 go_wp2
 go_loopg [7] k (fun kq v7 w' => ∃ (x7_1 : Int), v7 = .int .i64 x7_1 ∧ Aside0 (impl_characters.l0 kq l0 (l0.length : Int) x7_1 = some r) ∧ Aside0 (kq ≤ k) ∧ Drawn0 w w')
 case atStart => exact ⟨(0), (by first | rfl | (simp; done) | (simp [*]; done)), H', ⟨Nat.le_refl _⟩, by repeat (first | exact Drawn0.refl _ | apply Drawn0.step)⟩
 case round =>
  clear H'
  obtain ⟨x7_1, rfl, HA, HK1, ⟨m1, rfl⟩⟩ := hrel
  cases gk with
  | zero => exact absurd HA.out (by simp [impl_characters.l0])
  | succ k1 =>
   have H := HA.out
   clear HA
   simp only [impl_characters.l0] at H
   by_cases c2 : x7_1 < (l0.length : Int)
   ·rw [if_pos c2] at H
    have c2b0 : decide (x7_1 < (l0.length : Int)) = true := decide_eq_true c2
    clear c2
    by_cases c3 : 0 ≤ x7_1
    ·rw [if_pos c3] at H
     have c3b0 : decide (0 ≤ x7_1) = true := decide_eq_true c3
     clear c3
     by_cases c4 : x7_1 < (l0.length : Int)
     ·rw [if_pos c4] at H
      have c4b0 : decide (x7_1 < (l0.length : Int)) = true := decide_eq_true c4
      clear c4
      by_cases c5 : (rd l0 x7_1) < 0
      ·rw [if_pos c5] at H
       have c5b0 : decide ((rd l0 x7_1) < 0) = true := decide_eq_true c5
       clear c5
       obtain rfl := Option.some.inj H
       have p152 : 0 ≤ (x7_1 : Int) := of_decide_eq_true (by first | (with_reducible assumption) | assumption)
       have q152 : x7_1 < (l0.length : Int) := of_decide_eq_true (by first | (with_reducible assumption) | assumption)
       obtain ⟨ad152, e152, hx152_0⟩ := Kd.at_int HR0.out x7_1 p152 q152
       cases e152
       replace p152 := eq_true p152
       replace q152 := eq_true q152
       go_wp2
       go_ret
       exact ⟨by first | rfl | (simp; done) | (simp [*]; done), by repeat (first | exact Drawn0.refl _ | apply Drawn0.step)⟩
      ·rw [if_neg c5] at H
       have c5b0 : decide ((rd l0 x7_1) < 0) = false := decide_eq_false c5
       clear c5
       by_cases c6 : (rd l0 x7_1) > 1114111
       ·rw [if_pos c6] at H
        have c6b0 : decide (1114111 < (rd l0 x7_1)) = true := decide_eq_true c6
        clear c6
        obtain rfl := Option.some.inj H
        have p152 : 0 ≤ (x7_1 : Int) := of_decide_eq_true (by first | (with_reducible assumption) | assumption)
        have q152 : x7_1 < (l0.length : Int) := of_decide_eq_true (by first | (with_reducible assumption) | assumption)
        obtain ⟨ad152, e152, hx152_0⟩ := Kd.at_int HR0.out x7_1 p152 q152
        cases e152
        replace p152 := eq_true p152
        replace q152 := eq_true q152
        go_wp2
        go_ret
        exact ⟨by first | rfl | (simp; done) | (simp [*]; done), by repeat (first | exact Drawn0.refl _ | apply Drawn0.step)⟩
       ·rw [if_neg c6] at H
        have c6b0 : decide (1114111 < (rd l0 x7_1)) = false := decide_eq_false c6
        clear c6
        have H' := Aside0.mk H
        clear H
        have p152 : 0 ≤ (x7_1 : Int) := of_decide_eq_true (by first | (with_reducible assumption) | assumption)
        have q152 : x7_1 < (l0.length : Int) := of_decide_eq_true (by first | (with_reducible assumption) | assumption)
        obtain ⟨ad152, e152, hx152_0⟩ := Kd.at_int HR0.out x7_1 p152 q152
        cases e152
        replace p152 := eq_true p152
        replace q152 := eq_true q152
        go_wp2
        go_roundg k1
        case measure => have := HK1.out; omega
        case rel => exact ⟨(wrap64 (x7_1 + 1)), (by first | rfl | (simp; done) | (simp [*]; done)), H', ⟨by have := HK1.out; omega⟩, by repeat (first | exact Drawn0.refl _ | apply Drawn0.step)⟩
     ·rw [if_neg c4] at H
      exact absurd H (by simp)
    ·rw [if_neg c3] at H
     exact absurd H (by simp)
   ·rw [if_neg c2] at H
    have c2b0 : decide (x7_1 < (l0.length : Int)) = false := decide_eq_false c2
    clear c2
    obtain rfl := Option.some.inj H
    go_wp2
    go_ret
    exact ⟨by first | rfl | (simp; done) | (simp [*]; done), by repeat (first | exact Drawn0.refl _ | apply Drawn0.step)⟩

/-! ### impl_pairs: function 74 -/
def impl_pairs.l0 : Nat → List Int → Int → Int → Option (Bool)
 | 0, _, _, _ => none
 | k + 1, x0, x3, x4 => if x4 < (x0.length : Int) then (if (wrap64 (x4 + 1)) = (x0.length : Int) then (some false) else (if 0 ≤ x4 then (if (rd x0 x4) ≤ x3 then (some false) else (if 0 ≤ (wrap64 (x4 + 1)) then (if (wrap64 (x4 + 1)) < (x0.length : Int) then (if (rd x0 (wrap64 (x4 + 1))) < (rd x0 x4) then (some false) else (if (rd x0 (wrap64 (x4 + 1))) > 1114111 then (some false) else (impl_pairs.l0 k x0 (rd x0 (wrap64 (x4 + 1))) (wrap64 (x4 + 2))))) else (none)) else (none))) else (none))) else (some true)
def impl_pairs.f (k : Nat) (l0 : List Int) : Option (Bool) := impl_pairs.l0 k l0 (-1) 0
theorem impl_pairs.mono_l : ∀ k, (∀ y0 y1 y2, LeO (impl_pairs.l0 k y0 y1 y2) (impl_pairs.l0 (k + 1) y0 y1 y2))
 | 0 => fun _ _ _ r h => by simp [impl_pairs.l0] at h
 | k + 1 => by
  have ih0 := impl_pairs.mono_l k
  ·intro y0 y1 y2
   unfold impl_pairs.l0
   repeat' first
   | (with_reducible exact ih0 _ _ _)
   | (with_reducible exact LeO.refl _)
   | (with_reducible exact LeO.none _)
   | (with_reducible refine LeO.ite ?_ ?_)
   | (with_reducible refine LeO.bind ?_ (fun _ => ?_))
   | exact ih0 _ _ _
   | exact LeO.none _
   | refine LeO.ite ?_ ?_
   | refine LeO.bind ?_ (fun _ => ?_)
theorem impl_pairs.mono : ∀ a0 k, LeO (impl_pairs.f k a0) (impl_pairs.f (k + 1) a0) := by
 intro a0 k
 have ih0 := impl_pairs.mono_l k
 unfold impl_pairs.f
 repeat' first
   | (with_reducible exact ih0 _ _ _)
   | (with_reducible exact LeO.refl _)
   | (with_reducible exact LeO.none _)
   | (with_reducible refine LeO.ite ?_ ?_)
   | (with_reducible refine LeO.bind ?_ (fun _ => ?_))
   | exact ih0 _ _ _
   | exact LeO.none _
   | refine LeO.ite ?_ ?_
   | refine LeO.bind ?_ (fun _ => ?_)
set_option maxHeartbeats 8000000 in
set_option maxRecDepth 100000 in
theorem impl_pairs.calls (k : Nat) (A0 : Option Addr) (c0 : Nat) (l0 : List Int) (r : Bool) (w : World) (hr0 : Kd.C (Kd.int .i32) w A0 l0.length l0) (hc0 : l0.length ≤ c0) (h : impl_pairs.f k l0 = some r) :
  Calls Tryd.prog 74 #[.slice A0 l0.length c0] w fun e w' => e = .returned (.bool r) ∧ Drawn0 w w' := by
 have HR0 := Aside0.mk hr0
 have HC0 := Aside0.mk hc0
 clear hr0 hc0
 have H : (impl_pairs.l0 k l0 (-1) 0) = some r := h
 clear h
 have H' := Aside0.mk H
 clear H
 go_enter Tryd.func74, Tryd.ntmps74
 go_wp2
 repeat (go_quiet (fail); try go_wp2)
 go_loopg [3, 4] k (fun kq v3 v4 w' => ∃ (x3_1 : Int) (x4_1 : Int), v3 = .int .i32 x3_1 ∧ v4 = .int .i64 x4_1 ∧ Aside0 (impl_pairs.l0 kq l0 x3_1 x4_1 = some r) ∧ Aside0 (kq ≤ k) ∧ Drawn0 w w')
 case atStart => exact ⟨((-1)), (0), (by first | rfl | (simp; done) | (simp [*]; done)), (by first | rfl | (simp; done) | (simp [*]; done)), H', ⟨Nat.le_refl _⟩, by repeat (first | exact Drawn0.refl _ | apply Drawn0.step)⟩
 case round =>
  clear H'
  obtain ⟨x3_1, x4_1, rfl, rfl, HA, HK1, ⟨m1, rfl⟩⟩ := hrel
  cases gk with
  | zero => exact absurd HA.out (by simp [impl_pairs.l0])
  | succ k1 =>
   have H := HA.out
   clear HA
   simp only [impl_pairs.l0] at H
   by_cases c2 : x4_1 < (l0.length : Int)
   ·rw [if_pos c2] at H
    have c2b0 : decide (x4_1 < (l0.length : Int)) = true := decide_eq_true c2
    clear c2
    by_cases c3 : (wrap64 (x4_1 + 1)) = (l0.length : Int)
    ·rw [if_pos c3] at H
     have c3b0 : ((wrap64 (x4_1 + 1)) == (l0.length : Int)) = true := beq_iff_eq.mpr c3
     have c3b1 : ((wrap64 (x4_1 + 1)) != (l0.length : Int)) = false := bne_eq_false_iff_eq.mpr c3
     clear c3
     obtain rfl := Option.some.inj H
     go_wp2
     repeat (go_quiet (fail); try go_wp2)
     go_ret
     exact ⟨by first | rfl | (simp; done) | (simp [*]; done), by repeat (first | exact Drawn0.refl _ | apply Drawn0.step)⟩
    ·rw [if_neg c3] at H
     have c3b0 : ((wrap64 (x4_1 + 1)) == (l0.length : Int)) = false := beq_eq_false_iff_ne.mpr c3
     have c3b1 : ((wrap64 (x4_1 + 1)) != (l0.length : Int)) = true := bne_iff_ne.mpr c3
     by_cases c4 : 0 ≤ x4_1
     ·rw [if_pos c4] at H
      have c4b0 : decide (0 ≤ x4_1) = true := decide_eq_true c4
      clear c4
      by_cases c5 : (rd l0 x4_1) ≤ x3_1
      ·rw [if_pos c5] at H
       have c5b0 : decide ((rd l0 x4_1) ≤ x3_1) = true := decide_eq_true c5
       clear c5
       obtain rfl := Option.some.inj H
       have p153 : 0 ≤ (x4_1 : Int) := of_decide_eq_true (by first | (with_reducible assumption) | assumption)
       have q153 : x4_1 < (l0.length : Int) := of_decide_eq_true (by first | (with_reducible assumption) | assumption)
       obtain ⟨ad153, e153, hx153_0⟩ := Kd.at_int HR0.out x4_1 p153 q153
       cases e153
       replace p153 := eq_true p153
       replace q153 := eq_true q153
       go_wp2
       repeat (go_quiet (fail); try go_wp2)
       go_ret
       exact ⟨by first | rfl | (simp; done) | (simp [*]; done), by repeat (first | exact Drawn0.refl _ | apply Drawn0.step)⟩
      ·rw [if_neg c5] at H
       have c5b0 : decide ((rd l0 x4_1) ≤ x3_1) = false := decide_eq_false c5
       clear c5
       obtain ⟨ji6, hji6⟩ : ∃ j_ : Int, (wrap64 (x4_1 + 1)) = j_ := ⟨_, rfl⟩
       replace H : (if 0 ≤ (ji6) then (if (ji6) < (l0.length : Int) then (if (rd l0 (ji6)) < (rd l0 x4_1) then (some false) else (if (rd l0 (ji6)) > 1114111 then (some false) else (impl_pairs.l0 k1 l0 (rd l0 (ji6)) (wrap64 (x4_1 + 2))))) else (none)) else (none)) = some r := by first | (rw [hji6] at H; exact H) | (simp only [hji6] at H ⊢; exact H)
       (try rw [hji6] at c3b0)
       (try rw [hji6] at c3b1)
       have hji6w : (IntKind.i64.wrap (x4_1 + 1)) = ji6 := (i64_w _).trans hji6
       by_cases c7 : 0 ≤ (ji6)
       ·rw [if_pos c7] at H
        have c7b0 : decide (0 ≤ (ji6)) = true := decide_eq_true c7
        clear c7
        by_cases c8 : (ji6) < (l0.length : Int)
        ·rw [if_pos c8] at H
         have c8b0 : decide ((ji6) < (l0.length : Int)) = true := decide_eq_true c8
         clear c8
         by_cases c9 : (rd l0 (ji6)) < (rd l0 x4_1)
         ·rw [if_pos c9] at H
          have c9b0 : decide ((rd l0 (ji6)) < (rd l0 x4_1)) = true := decide_eq_true c9
          clear c9
          obtain rfl := Option.some.inj H
          have p153 : 0 ≤ (x4_1 : Int) := of_decide_eq_true (by first | (with_reducible assumption) | assumption)
          have q153 : x4_1 < (l0.length : Int) := of_decide_eq_true (by first | (with_reducible assumption) | assumption)
          obtain ⟨ad153, e153, hx153_0⟩ := Kd.at_int HR0.out x4_1 p153 q153
          cases e153
          replace p153 := eq_true p153
          replace q153 := eq_true q153
          have p154 : 0 ≤ ((ji6) : Int) := of_decide_eq_true (by first | (with_reducible assumption) | assumption)
          have q154 : (ji6) < (l0.length : Int) := of_decide_eq_true (by first | (with_reducible assumption) | assumption)
          obtain ⟨ad154, e154, hx154_0⟩ := Kd.at_int HR0.out (ji6) p154 q154
          obtain rfl : ad153 = ad154 := (by injection e154)
          replace p154 := eq_true p154
          replace q154 := eq_true q154
          have p155 : 0 ≤ (x4_1 : Int) := of_decide_eq_true (by first | (with_reducible assumption) | assumption)
          have q155 : x4_1 < (l0.length : Int) := of_decide_eq_true (by first | (with_reducible assumption) | assumption)
          obtain ⟨ad155, e155, hx155_0⟩ := Kd.at_int HR0.out x4_1 p155 q155
          obtain rfl : ad153 = ad155 := (by injection e155)
          replace p155 := eq_true p155
          replace q155 := eq_true q155
          go_wp2
          repeat (go_quiet (fail); try go_wp2)
          go_ret
          exact ⟨by first | rfl | (simp; done) | (simp only [← hji6] <;> (first | rfl | simp)) | (simp [*]; done), by repeat (first | exact Drawn0.refl _ | apply Drawn0.step)⟩
         ·rw [if_neg c9] at H
          have c9b0 : decide ((rd l0 (ji6)) < (rd l0 x4_1)) = false := decide_eq_false c9
          clear c9
          by_cases c10 : (rd l0 (ji6)) > 1114111
          ·rw [if_pos c10] at H
           have c10b0 : decide (1114111 < (rd l0 (ji6))) = true := decide_eq_true c10
           clear c10
           obtain rfl := Option.some.inj H
           have p153 : 0 ≤ (x4_1 : Int) := of_decide_eq_true (by first | (with_reducible assumption) | assumption)
           have q153 : x4_1 < (l0.length : Int) := of_decide_eq_true (by first | (with_reducible assumption) | assumption)
           obtain ⟨ad153, e153, hx153_0⟩ := Kd.at_int HR0.out x4_1 p153 q153
           cases e153
           replace p153 := eq_true p153
           replace q153 := eq_true q153
           have p154 : 0 ≤ ((ji6) : Int) := of_decide_eq_true (by first | (with_reducible assumption) | assumption)
           have q154 : (ji6) < (l0.length : Int) := of_decide_eq_true (by first | (with_reducible assumption) | assumption)
           obtain ⟨ad154, e154, hx154_0⟩ := Kd.at_int HR0.out (ji6) p154 q154
           obtain rfl : ad153 = ad154 := (by injection e154)
           replace p154 := eq_true p154
           replace q154 := eq_true q154
           have p155 : 0 ≤ (x4_1 : Int) := of_decide_eq_true (by first | (with_reducible assumption) | assumption)
           have q155 : x4_1 < (l0.length : Int) := of_decide_eq_true (by first | (with_reducible assumption) | assumption)
           obtain ⟨ad155, e155, hx155_0⟩ := Kd.at_int HR0.out x4_1 p155 q155
           obtain rfl : ad153 = ad155 := (by injection e155)
           replace p155 := eq_true p155
           replace q155 := eq_true q155
           have p156 : 0 ≤ ((ji6) : Int) := of_decide_eq_true (by first | (with_reducible assumption) | assumption)
           have q156 : (ji6) < (l0.length : Int) := of_decide_eq_true (by first | (with_reducible assumption) | assumption)
           obtain ⟨ad156, e156, hx156_0⟩ := Kd.at_int HR0.out (ji6) p156 q156
           obtain rfl : ad153 = ad156 := (by injection e156)
           replace p156 := eq_true p156
           replace q156 := eq_true q156
           go_wp2
           repeat (go_quiet (fail); try go_wp2)
           go_ret
           exact ⟨by first | rfl | (simp; done) | (simp only [← hji6] <;> (first | rfl | simp)) | (simp [*]; done), by repeat (first | exact Drawn0.refl _ | apply Drawn0.step)⟩
          ·rw [if_neg c10] at H
           have c10b0 : decide (1114111 < (rd l0 (ji6))) = false := decide_eq_false c10
           clear c10
           have H' := Aside0.mk H
           clear H
           have p153 : 0 ≤ (x4_1 : Int) := of_decide_eq_true (by first | (with_reducible assumption) | assumption)
           have q153 : x4_1 < (l0.length : Int) := of_decide_eq_true (by first | (with_reducible assumption) | assumption)
           obtain ⟨ad153, e153, hx153_0⟩ := Kd.at_int HR0.out x4_1 p153 q153
           cases e153
           replace p153 := eq_true p153
           replace q153 := eq_true q153
           have p154 : 0 ≤ ((ji6) : Int) := of_decide_eq_true (by first | (with_reducible assumption) | assumption)
           have q154 : (ji6) < (l0.length : Int) := of_decide_eq_true (by first | (with_reducible assumption) | assumption)
           obtain ⟨ad154, e154, hx154_0⟩ := Kd.at_int HR0.out (ji6) p154 q154
           obtain rfl : ad153 = ad154 := (by injection e154)
           replace p154 := eq_true p154
           replace q154 := eq_true q154
           have p155 : 0 ≤ (x4_1 : Int) := of_decide_eq_true (by first | (with_reducible assumption) | assumption)
           have q155 : x4_1 < (l0.length : Int) := of_decide_eq_true (by first | (with_reducible assumption) | assumption)
           obtain ⟨ad155, e155, hx155_0⟩ := Kd.at_int HR0.out x4_1 p155 q155
           obtain rfl : ad153 = ad155 := (by injection e155)
           replace p155 := eq_true p155
           replace q155 := eq_true q155
           have p156 : 0 ≤ ((ji6) : Int) := of_decide_eq_true (by first | (with_reducible assumption) | assumption)
           have q156 : (ji6) < (l0.length : Int) := of_decide_eq_true (by first | (with_reducible assumption) | assumption)
           obtain ⟨ad156, e156, hx156_0⟩ := Kd.at_int HR0.out (ji6) p156 q156
           obtain rfl : ad153 = ad156 := (by injection e156)
           replace p156 := eq_true p156
           replace q156 := eq_true q156
           have p157 : 0 ≤ ((ji6) : Int) := of_decide_eq_true (by first | (with_reducible assumption) | assumption)
           have q157 : (ji6) < (l0.length : Int) := of_decide_eq_true (by first | (with_reducible assumption) | assumption)
           obtain ⟨ad157, e157, hx157_0⟩ := Kd.at_int HR0.out (ji6) p157 q157
           obtain rfl : ad153 = ad157 := (by injection e157)
           replace p157 := eq_true p157
           replace q157 := eq_true q157
           go_wp2
           repeat (go_quiet (fail); try go_wp2)
           go_roundg k1
           case measure => have := HK1.out; omega
           case rel => exact ⟨(rd l0 (ji6)), (wrap64 (x4_1 + 2)), (by first | rfl | (simp; done) | (simp only [← hji6] <;> (first | rfl | simp)) | (simp [*]; done)), (by first | rfl | (simp; done) | (simp [*]; done)), H', ⟨by have := HK1.out; omega⟩, by repeat (first | exact Drawn0.refl _ | apply Drawn0.step)⟩
        ·rw [if_neg c8] at H
         exact absurd H (by simp)
       ·rw [if_neg c7] at H
        exact absurd H (by simp)
     ·rw [if_neg c4] at H
      exact absurd H (by simp)
   ·rw [if_neg c2] at H
    have c2b0 : decide (x4_1 < (l0.length : Int)) = false := decide_eq_false c2
    clear c2
    obtain rfl := Option.some.inj H
    go_wp2
    repeat (go_quiet (fail); try go_wp2)
    go_ret
    exact ⟨by first | rfl | (simp; done) | (simp [*]; done), by repeat (first | exact Drawn0.refl _ | apply Drawn0.step)⟩

end Go.Proofs.YtcncclglmgdinaaDoor.PFnPgStep
