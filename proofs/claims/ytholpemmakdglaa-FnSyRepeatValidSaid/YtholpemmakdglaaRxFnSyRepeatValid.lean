/- The thin package builds a tree of the package. -/
import Derived.Test.YtholpemmakdglaaRgFnSyRepeatValid
import Derived.Test.YtholpemmakdglaaRegV
namespace Go.Proofs.Ytholpemmakdglaa.PFnSyRepeatValid
open Go.RowKit Go.Proofs.YtholpemmakdglaaW.PrintWords Go.Proofs.YtholpemmakdglaaW.PrintLast Go.Proofs.YtholpemmakdglaaW.PrintMore
set_option linter.unusedVariables false
set_option linter.unusedSimpArgs false
mutual
/-- All operations of a tree's nodes are small. -/
def opT : Tr → Prop
  | ⟨op, _, _, _, _, _, _, ts⟩ => 0 ≤ op ∧ op ≤ 255 ∧ opL ts
def opL : List Tr → Prop
  | [] => True
  | t :: ts => opT t ∧ opL ts
end
set_option maxRecDepth 100000 in
set_option maxHeartbeats 4000000 in
theorem regexpOf_c : ∀ (N : Nat) (t : Tr) (A2 : Option Addr) (c2 : Nat) (A7 : Option Addr) (c7 : Nat) (w : World), ncT t ≤ N → wfT t → szT t → opT t →
    (Kd.int .i32).C w A2 t.f2.length t.f2 → t.f2.length ≤ c2 → k35.C w A7 t.f7.length t.f7 → t.f7.length ≤ c7 →
    Calls Try.prog 41 #[.agg #[.int .i64 t.f0, .int .i64 t.f1, .slice A2 t.f2.length c2, .int .i64 t.f3, .int .i64 t.f4, .int .i64 t.f5, .string t.f6, .slice A7 t.f7.length c7]] w fun e w' =>
      ∃ b, e = .returned (.pointer (some ⟨b, 0, none⟩)) ∧ Below w.heap.size w w' ∧ RgT w' (fun k => w.heap.size ≤ k) b t := by
  intro N
  induction N with
  | zero => intro t A2 c2 A7 c7 w hN; have := ncT_pos t; omega
  | succ N ih =>
    intro t A2 c2 A7 c7 w hN hwf hsz hop h2 hc2 h7 hc7
    obtain ⟨op, fl, rs, m0, m1, cp, nm, ts⟩ := t
    rw [wfT] at hwf
    rw [szT] at hsz
    rw [opT] at hop
    rw [ncT] at hN
    simp only at h2 hc2 h7 hc7
    have IH := Lib.hid ih
    clear ih
    have hwop : IntKind.u8.wrap op = op := by rw [IntKind.wrap_u8]; omega
    have hs0 : (w.alloc (.cells #[.int .i64 op, .int .i64 fl, .slice A2 rs.length c2, .int .i64 m0, .int .i64 m1, .int .i64 cp, .string nm, .slice A7 ts.length c7] 35)).heap.size = w.heap.size + 1 := by simp
    have hb1 : Below w.heap.size w ((w.alloc (.cells #[.int .i64 op, .int .i64 fl, .slice A2 rs.length c2, .int .i64 m0, .int .i64 m1, .int .i64 cp, .string nm, .slice A7 ts.length c7] 35)).alloc (.cells (rgCells op fl (.slice none 0 0) (.slice none 0 0) m0 m1 cp nm) 69)) := ((Below.refl _ _).alloc (Nat.le_refl _) _).alloc (by simp) _
    have k0 := Mem.blk_old (Mem.blk_new w (.cells #[.int .i64 op, .int .i64 fl, .slice A2 rs.length c2, .int .i64 m0, .int .i64 m1, .int .i64 cp, .string nm, .slice A7 ts.length c7] 35)) (.cells (rgCells op fl (.slice none 0 0) (.slice none 0 0) m0 m1 cp nm) 69)
    have k1 := Mem.blk_new (w.alloc (.cells #[.int .i64 op, .int .i64 fl, .slice A2 rs.length c2, .int .i64 m0, .int .i64 m1, .int .i64 cp, .string nm, .slice A7 ts.length c7] 35)) (.cells (rgCells op fl (.slice none 0 0) (.slice none 0 0) m0 m1 cp nm) 69)
    rw [hs0] at k1
    have hcells := blk_all w #[.int .i64 op, .int .i64 fl, .slice A2 rs.length c2, .int .i64 m0, .int .i64 m1, .int .i64 cp, .string nm, .slice A7 ts.length c7] 35 rfl
    have d0 := hcells 0 _ rfl
    have d1 := hcells 1 _ rfl
    have d2 := hcells 2 _ rfl
    have d3 := hcells 3 _ rfl
    have d4 := hcells 4 _ rfl
    have d5 := hcells 5 _ rfl
    have d6 := hcells 6 _ rfl
    have d7 := hcells 7 _ rfl
    clear hcells
    go_enter Try.func41, Try.ntmps41
    go_upto_region 2 with fail
    clear d0 d1 d2 d3 d4 d5 d6 d7
    have HB1 := Lib.hid hb1
    have hT1 : ((w.alloc (.cells #[.int .i64 op, .int .i64 fl, .slice A2 rs.length c2, .int .i64 m0, .int .i64 m1, .int .i64 cp, .string nm, .slice A7 ts.length c7] 35)).alloc (.cells (rgCells op fl (.slice none 0 0) (.slice none 0 0) m0 m1 cp nm) 69)).heap.size = w.heap.size + 2 := by simp
    have H2 := Lib.hid h2
    have H7 := Lib.hid h7
    clear hb1 hs0 h2 h7
    simp only [rgCells] at k0 k1 HB1 hT1
    generalize ((w.alloc (.cells #[.int .i64 op, .int .i64 fl, .slice A2 rs.length c2, .int .i64 m0, .int .i64 m1, .int .i64 cp, .string nm, .slice A7 ts.length c7] 35)).alloc (.cells #[.int .u8 op, .int .u16 (IntKind.u16.wrap fl), .slice none 0 0, .pointer none, .slice none 0 0, .int .i32 0, .int .i32 0, .int .i64 m0, .int .i64 m1, .int .i64 cp, .string nm] 69)) = W1 at *
    have HC2 := Lib.hid (Kd.C_below H2.out HB1.out)
    generalize hT0 : w.heap.size = T0 at *
    have e2 : W1.cell? ⟨T0, 2, none⟩ = some (.slice A2 rs.length c2) := (blk_cell k0 2).trans rfl
    have K0 := Lib.hid k0
    have K1 := Lib.hid k1
    clear k0 k1
    have HSZ := Lib.hid hsz
    clear hsz
    go_wp2_with (at_builtin; refine wp_copy rfl _ _ rfl (T0 + 2) 21 4 Try.underlying26 (by kernel_rfl) A2 rs c2 rfl HC2.out HSZ.out.1 (by omega) ?_; intro vR W2 oR gR; obtain ⟨AR, cR, rfl⟩ := own_slice oR; have k0 := Mem.blk_grown K0.out gR (by simp); have k1 := Mem.blk_grown K1.out gR (by simp); have f1 := blk_frozen k1 4; have f2 := (blk_cell k1 4).trans rfl; have f7 : W2.cell? ⟨T0, 7, none⟩ = some (.slice A7 ts.length c7) := (blk_cell k0 7).trans rfl)
    have B2 := HB1.out.grown gR (by omega) (by simp)
    have HB2 := Lib.hid (B2.setCell (p := ⟨T0 + 1, 4, none⟩) (by simp) (.slice AR rs.length cR))
    have n1 := Mem.own_apart oR k1 (by decide)
    have hs2 : T0 + 2 ≤ (W2.setCell ⟨T0 + 1, 4, none⟩ (.slice AR rs.length cR)).heap.size := by have := gR.size; simp [World.setCell]; omega
    have OR := Lib.hid (ownsRow_setCell_other oR (Ne.symm n1) (a := ⟨T0 + 1, 4, none⟩) (.slice AR rs.length cR))
    have BK := Lib.hid (blk_put k1 4 (.slice AR rs.length cR) rfl)
    clear B2 n1 k0 k1 f1 f2 f7 oR gR K0 K1 HC2 e2 hT1 HB1
    generalize W2.setCell ⟨T0 + 1, 4, none⟩ (.slice AR rs.length cR) = W3 at *
    have hl7 := H7.out.2.1
    have hfits : Fits ts.length := hl7
    have HSL := Lib.hid HSZ.out.2.2
    have HRM := Lib.hid HSZ.out.2.1
    have HWL := Lib.hid hwf.2.2
    have HOL := Lib.hid hop.2.2
    clear hwf hop HSZ hwop
    go_loopg [31] (ts.length + 1) (fun g s31 wx => ∃ (i : Nat) (bs : List Nat) (AS : Option Addr) (cS : Nat), s31 = .int .i64 i ∧ i ≤ ts.length ∧ Below T0 w wx ∧ T0 + 2 ≤ wx.heap.size ∧
        wx.heap[T0 + 1]? = some (.cells #[.int .u8 op, .int .u16 (IntKind.u16.wrap fl), .slice AS i cS, .pointer none, .slice AR rs.length cR, .int .i32 0, .int .i32 0, .int .i64 m0, .int .i64 m1, .int .i64 cp, .string nm] 69 (0, 0)) ∧
        wx.ownsRow (T0 + 2) 21 1 (.slice AR rs.length cR) rs.length (rs.map (Value.int .i32)) ∧ wx.ownsRow (T0 + 2) 46 1 (.slice AS i cS) i (ptrs bs) ∧
        RgL wx (fun k => T0 + 2 ≤ k ∧ some k ≠ (Value.slice AS i cS).ownBlock) bs (ts.take i) ∧ szL (ts.drop i) ∧ wfL (ts.drop i) ∧ opL (ts.drop i) ∧ ncL (ts.drop i) ≤ N ∧ ts.length - i < g)
    case atStart => exact ⟨0, [], none, 0, rfl, by omega, HB2.out, hs2, BK.out, OR.out, World.ownsRow_nil _ _ _ _, by rw [List.take_zero, RgL], HSL.out, HWL.out, HOL.out, by rw [List.drop_zero]; omega, by omega⟩
    case round =>
      obtain ⟨i, bs, AS, cS, rfl, hi, hbw, hsw, hk1, hoR, hoS, hL, hszl, hwfl, hopl, hnc, hg⟩ := hrel
      have HB := Lib.hid hbw; have HK := Lib.hid hk1; have HoR := Lib.hid hoR; have HoS := Lib.hid hoS; have HL := Lib.hid hL; have HZ := Lib.hid hszl; have HW := Lib.hid hwfl; have HO := Lib.hid hopl; have HN := Lib.hid hnc
      clear hbw hk1 hoR hoS hL hszl hwfl hopl hnc HB2 BK OR hs2 HSL HWL HOL
      obtain ⟨g', rfl⟩ : ∃ g', gk = g' + 1 := ⟨gk - 1, by omega⟩
      by_cases hlt : i < ts.length
      · obtain ⟨t, ts', hd⟩ : ∃ t ts', ts.drop i = t :: ts' := by
          cases hdr : ts.drop i with
          | nil => have := List.drop_eq_nil_iff.1 hdr; omega
          | cons t ts' => exact ⟨t, ts', rfl⟩
        obtain ⟨bb, oo, D2, b2, D7, b7, rfl, y0, y1, y2, y3, y4, y5, y6, y7, l2, g2, l7, g7⟩ := elem_at H7.out hd
        have hbT := HB.out
        rw [← hT0] at hbT
        have q0 := Gb.cellB hbT y0
        have q1 := Gb.cellB hbT y1
        have q2 := Gb.cellB hbT y2
        have q3 := Gb.cellB hbT y3
        have q4 := Gb.cellB hbT y4
        have q5 := Gb.cellB hbT y5
        have q6 := Gb.cellB hbT y6
        have q7 := Gb.cellB hbT y7
        have HG2 := Lib.hid (Kd.C_below g2 hbT)
        have HG7 := Lib.hid (Kd.C_below g7 hbT)
        clear y0 y1 y2 y3 y4 y5 y6 y7 g2 g7 hbT
        have hd1 := (rd_at hd).2.2
        have hzl := HZ.out; have hwl := HW.out; have hol := HO.out; have hnl := HN.out
        rw [hd] at hzl hwl hol hnl
        rw [szL] at hzl
        rw [wfL] at hwl
        rw [opL] at hol
        rw [ncL] at hnl
        have HD := Lib.hid hd; have HD1 := Lib.hid hd1; have HZl := Lib.hid hzl; have HWl := Lib.hid hwl; have HOl := Lib.hid hol; have HNl := Lib.hid hnl
        clear hd hd1 hzl hwl hol hnl HZ HW HO HN
        go_upto_region 6 with fail
        have x1 := Mem.blk_old HK.out (.cells #[.int .i64 t.f0, .int .i64 t.f1, .slice D2 t.f2.length b2, .int .i64 t.f3, .int .i64 t.f4, .int .i64 t.f5, .string t.f6, .slice D7 t.f7.length b7] 35)
        have x5 := Mem.blk_new wr (.cells #[.int .i64 t.f0, .int .i64 t.f1, .slice D2 t.f2.length b2, .int .i64 t.f3, .int .i64 t.f4, .int .i64 t.f5, .string t.f6, .slice D7 t.f7.length b7] 35)
        have bA : Below wr.heap.size wr (wr.alloc (.cells #[.int .i64 t.f0, .int .i64 t.f1, .slice D2 t.f2.length b2, .int .i64 t.f3, .int .i64 t.f4, .int .i64 t.f5, .string t.f6, .slice D7 t.f7.length b7] 35)) := (Below.refl _ _).alloc (Nat.le_refl _) _
        have hs5 : (wr.alloc (.cells #[.int .i64 t.f0, .int .i64 t.f1, .slice D2 t.f2.length b2, .int .i64 t.f3, .int .i64 t.f4, .int .i64 t.f5, .string t.f6, .slice D7 t.f7.length b7] 35)).heap.size = wr.heap.size + 1 := by simp
        have BA := Lib.hid bA
        clear bA q0 q1 q2 q3 q4 q5 q6 q7
        generalize wr.alloc (.cells #[.int .i64 t.f0, .int .i64 t.f1, .slice D2 t.f2.length b2, .int .i64 t.f3, .int .i64 t.f4, .int .i64 t.f5, .string t.f6, .slice D7 t.f7.length b7] 35) = W5 at *
        have z : W5.cell? ⟨T0 + 1, 2, none⟩ = some (.slice AS i cS) := (blk_cell x1 2).trans rfl
        have z0 : W5.cell? ⟨wr.heap.size, 0, none⟩ = some (.int .i64 t.f0) := (blk_cell x5 0).trans rfl
        have z1 : W5.cell? ⟨wr.heap.size, 1, none⟩ = some (.int .i64 t.f1) := (blk_cell x5 1).trans rfl
        have z2 : W5.cell? ⟨wr.heap.size, 2, none⟩ = some (.slice D2 t.f2.length b2) := (blk_cell x5 2).trans rfl
        have z3 : W5.cell? ⟨wr.heap.size, 3, none⟩ = some (.int .i64 t.f3) := (blk_cell x5 3).trans rfl
        have z4 : W5.cell? ⟨wr.heap.size, 4, none⟩ = some (.int .i64 t.f4) := (blk_cell x5 4).trans rfl
        have z5 : W5.cell? ⟨wr.heap.size, 5, none⟩ = some (.int .i64 t.f5) := (blk_cell x5 5).trans rfl
        have z6 : W5.cell? ⟨wr.heap.size, 6, none⟩ = some (.string t.f6) := (blk_cell x5 6).trans rfl
        have z7 : W5.cell? ⟨wr.heap.size, 7, none⟩ = some (.slice D7 t.f7.length b7) := (blk_cell x5 7).trans rfl
        have X1 := Lib.hid x1
        have X5 := Lib.hid x5
        clear x1 x5
        have CI : Hid (∀ w1, Below W5.heap.size W5 w1 → Calls Try.prog 41 #[.agg #[.int .i64 t.f0, .int .i64 t.f1, .slice D2 t.f2.length b2, .int .i64 t.f3, .int .i64 t.f4, .int .i64 t.f5, .string t.f6, .slice D7 t.f7.length b7]] w1 fun e w' =>
            ∃ b, e = .returned (.pointer (some ⟨b, 0, none⟩)) ∧ Below w1.heap.size w1 w' ∧ RgT w' (fun k => w1.heap.size ≤ k) b t) := Lib.hid fun w1 hb1 =>
          IH.out t D2 b2 D7 b7 w1 (by have := HNl.out; omega) HWl.out.1 HZl.out.1 HOl.out.1 (Kd.C_below HG2.out (BA.out.trans (hb1.mono (by omega)))) l2 (Kd.C_below HG7.out (BA.out.trans (hb1.mono (by omega)))) l7
        refine Mem.wp_region_midk 6 3 (fun w' => w'.cell? ⟨T0 + 1, 2, none⟩ = some (.slice AS i cS) ∧ w'.cell? ⟨wr.heap.size, 0, none⟩ = some (.int .i64 t.f0) ∧ w'.cell? ⟨wr.heap.size, 1, none⟩ = some (.int .i64 t.f1) ∧ w'.cell? ⟨wr.heap.size, 2, none⟩ = some (.slice D2 t.f2.length b2) ∧ w'.cell? ⟨wr.heap.size, 3, none⟩ = some (.int .i64 t.f3) ∧
          w'.cell? ⟨wr.heap.size, 4, none⟩ = some (.int .i64 t.f4) ∧ w'.cell? ⟨wr.heap.size, 5, none⟩ = some (.int .i64 t.f5) ∧ w'.cell? ⟨wr.heap.size, 6, none⟩ = some (.string t.f6) ∧ w'.cell? ⟨wr.heap.size, 7, none⟩ = some (.slice D7 t.f7.length b7)) (by kernel_rfl) (by kernel_rfl) ⟨z, z0, z1, z2, z3, z4, z5, z6, z7⟩ ?_
        simp only [List.take_succ_cons, List.take_zero, List.drop_succ_cons, List.drop_zero]
        iterate 6
          refine Mem.wpHeld_step (v := ?_) (by rfl) ?_ ?_
          rotate_left
          · intro w hSw; (try dsimp only at hSw); go_simp; try with_reducible rfl
          try simp only [Act.put, List.setIfInBounds_toArray, List.set_cons_zero, List.set_cons_succ]
        refine Mem.wpHeld_nil ?_
        simp only [Mem.midK]
        refine wpOp_step rfl ?_
        intro K' hK
        go_simp
        go_wp2_with (go_at_call 41; refine ((CI.out _ ((Below.refl _ _).drew)).mono ?_); rintro e w1 ⟨b, rfl, hb6, hR6⟩)
        have b6 : Below W5.heap.size W5 w1 := (Below.refl _ _).drew.trans hb6
        refine ⟨⟨Gb.cellB b6 z, Gb.cellB b6 z0, Gb.cellB b6 z1, Gb.cellB b6 z2, Gb.cellB b6 z3, Gb.cellB b6 z4, Gb.cellB b6 z5, Gb.cellB b6 z6, Gb.cellB b6 z7⟩, ?_⟩
        have hpre : ∀ k, k < wr.heap.size → w1.heap[k]? = wr.heap[k]? := fun k hk => (b6.block k (by omega)).trans (BA.out.block k hk)
        have hsz6 := b6.size
        have k1 := (b6.block (T0 + 1) (by omega)).trans X1.out
        have k5 := (b6.block wr.heap.size (by omega)).trans X5.out
        have k1' := Mem.blk_old k1 (.cells #[.pointer (some ⟨b, 0, none⟩)] 46)
        have k5' := Mem.blk_old k5 (.cells #[.pointer (some ⟨b, 0, none⟩)] 46)
        have hS7 := b6.alloc b6.size (.cells #[.pointer (some ⟨b, 0, none⟩)] 46)
        have hoS1 : w1.ownsRow (T0 + 2) 46 1 (.slice AS i cS) i (ptrs bs) := own_move HoS.out fun k hk => hpre k (own_blk HoS.out hk)
        have hoR1 : w1.ownsRow (T0 + 2) 21 1 (.slice AR rs.length cR) rs.length (rs.map (Value.int .i32)) := own_move HoR.out fun k hk => hpre k (own_blk HoR.out hk)
        have hoS1' := hoS1.alloc (.cells #[.pointer (some ⟨b, 0, none⟩)] 46)
        have hoR1' := hoR1.alloc (.cells #[.pointer (some ⟨b, 0, none⟩)] 46)
        have nS := Mem.own_apart hoS1' k1' (by decide)
        have nS5 := Mem.own_apart hoS1' k5' (by decide)
        refine wpOp_step rfl ?_
        intro K' hK
        go_simp
        refine hK _ _ ⟨⟨Gb.cellB hS7 z, Gb.cellB hS7 z0, Gb.cellB hS7 z1, Gb.cellB hS7 z2, Gb.cellB hS7 z3, Gb.cellB hS7 z4, Gb.cellB hS7 z5, Gb.cellB hS7 z6, Gb.cellB hS7 z7⟩, ?_⟩
        clear hK K'
        have hbl := bs.length
        refine wpOp_step rfl ?_
        intro K' hK
        rw [if_pos (by rfl)]
        refine wp_app1_op (.tmp 39) (.tmp 42) 65 rfl (T0 + 2) 46 (.pointer none) 8 Try.underlying65 (by kernel_rfl) rfl (.slice AS i cS) i (ptrs bs) rfl hoS1 (.pointer (some ⟨b, 0, none⟩)) rfl rfl (by have := HRM.out; unfold Room at this; unfold maxLen; omega) (by have := HRM.out; unfold Room at this; omega) (by omega) ?_
        intro v' w2 hown hg2 hat
        obtain ⟨A', c', rfl⟩ := own_slice hown
        have m1 := Mem.blk_grown k1' hg2 nS
        have m5 := Mem.blk_grown k5' hg2 nS5
        have hoR2 := own_move (w1 := w2) hoR1' fun k hk => hg2.block k (own_blk hoR1' hk) (Ne.symm (Mem.own_apart2 hoS1' hoR1' (by decide) k hk))
        have nR := Mem.own_apart hoR2 m1 (by decide)
        have nN := Mem.own_apart hown m1 (by decide)
        have fz := blk_frozen m1 2
        have z' : w2.cell? ⟨T0 + 1, 2, none⟩ = some (.slice AS i cS) := (blk_cell m1 2).trans rfl
        refine hK _ _ ⟨⟨z', (blk_cell m5 0).trans rfl, (blk_cell m5 1).trans rfl, (blk_cell m5 2).trans rfl, (blk_cell m5 3).trans rfl, (blk_cell m5 4).trans rfl, (blk_cell m5 5).trans rfl, (blk_cell m5 6).trans rfl, (blk_cell m5 7).trans rfl⟩, ?_⟩
        clear hK K'
        have HM1 := Lib.hid m1
        have hch : ∀ k, k < w1.heap.size → some k ≠ (Value.slice AS i cS).ownBlock → k ≠ T0 + 1 → (w2.setCell ⟨T0 + 1, 2, none⟩ (.slice A' (i + 1) c')).heap[k]? = w1.heap[k]? := fun k hk h1 h2 =>
          (Below.heap_setCell _ _ _ k h2).trans ((hg2.block k (by simp; omega) h1).trans (Below.heap_alloc _ _ _ hk))
        have hbT : Below T0 w w1 := (HB.out.trans ((BA.out).mono (by omega))).trans (b6.mono (by omega))
        have HLn : RgL (w2.setCell ⟨T0 + 1, 2, none⟩ (.slice A' (i + 1) c')) (fun k => T0 + 2 ≤ k ∧ some k ≠ (Value.slice A' (i + 1) c').ownBlock) (bs ++ [b]) (ts.take (i + 1)) := by
          have hti : ts.take (i + 1) = ts.take i ++ [t] := by
            have hg := (rd_at HD.out)
            have : ts[i]? = some t := by
              have := congrArg List.head? HD.out
              rw [List.head?_drop] at this
              simpa using this
            rw [List.take_add_one, this]; rfl
          rw [hti]
          have hatk : ∀ k, some k ≠ (Value.slice AS i cS).ownBlock → k < w1.heap.size → some k ≠ (Value.slice A' (i + 1) c').ownBlock := fun k h1 h2 => by
            rcases hat with h | h <;> rw [h]
            · exact h1
            · intro e; injection e with e; omega
          refine rgL_snoc (rgT_move (fun k hk hlt => ?_) t b hR6) _ _ (rgL_move (fun k hk hlt => ?_) _ _ HL.out)
          · have hd5 : W5.drew.heap.size = W5.heap.size := rfl
            have h1 : some k ≠ (Value.slice AS i cS).ownBlock := fun e => by
              have := own_blk HoS.out e.symm
              omega
            exact ⟨hch k hlt h1 (by omega), by omega, hatk k h1 hlt⟩
          · exact ⟨(hch k (by omega) hk.2 (by omega)).trans (hpre k hlt), hk.1, hatk k hk.2 (by omega)⟩
        have HLN := Lib.hid HLn
        have HON := Lib.hid (ownsRow_setCell_other hown (Ne.symm nN) (a := ⟨T0 + 1, 2, none⟩) (.slice A' (i + 1) c'))
        have HRN := Lib.hid (ownsRow_setCell_other hoR2 (Ne.symm nR) (a := ⟨T0 + 1, 2, none⟩) (.slice A' (i + 1) c'))
        have HKN := Lib.hid (blk_put m1 2 (.slice A' (i + 1) c') rfl)
        have HBN := Lib.hid (((hbT.alloc (by omega) (.cells #[.pointer (some ⟨b, 0, none⟩)] 46)).grown hg2 (by simp; omega) (fun k hk => by have := own_blk hoS1' hk; have := (hoS1'.lt k hk).1; omega)).setCell (p := ⟨T0 + 1, 2, none⟩) (by simp) (.slice A' (i + 1) c'))
        have hsN : T0 + 2 ≤ (w2.setCell ⟨T0 + 1, 2, none⟩ (.slice A' (i + 1) c')).heap.size := by have := hg2.size; simp [World.setCell] at this ⊢; omega
        clear HLn hch hpre hown hoR2 nR nN m1 m5 hg2 hat hoS1' hoR1' hoS1 hoR1 nS nS5 k1 k5 k1' k5' hS7 hR6 hb6 z z0 z1 z2 z3 z4 z5 z6 z7
        go_wp2_with fail
        refine NoPanic.normal ?_
        go_wp2
        go_roundg g'
        case rel => exact ⟨i + 1, bs ++ [b], A', c', by go_num, by omega, HBN.out, hsN, HKN.out, HRN.out, by have := HON.out; simpa [ptrs] using this, HLN.out, by rw [HD1.out]; exact HZl.out.2, by rw [HD1.out]; exact HWl.out.2, by rw [HD1.out]; exact HOl.out.2, by rw [HD1.out]; have := HNl.out; omega, by omega⟩
        case measure => omega
      · obtain rfl : i = ts.length := by omega
        go_wp2
        go_ret
        refine ⟨T0 + 1, rfl, by rw [hT0]; exact HB.out, ?_⟩
        rw [RgT, hT0]
        have hL := HL.out
        rw [List.take_length] at hL
        exact ⟨by omega, .slice AS ts.length cS, .slice AR rs.length cR, bs, HK.out, fun k hk => by have := (HoR.out.lt k hk).1; omega, own_weaken HoR.out (Nat.zero_le _), fun k hk => by have := (HoS.out.lt k hk).1; omega, own_weaken HoS.out (Nat.zero_le _), rgL_move (fun k hk hlt => ⟨rfl, by omega⟩) _ _ hL⟩
end Go.Proofs.Ytholpemmakdglaa.PFnSyRepeatValid
