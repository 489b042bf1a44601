/- The thin package's weighing of a tree. What the thin package's check of each node tells. -/
import Derived.Test.YtholpemmakdglaaDoorACFnMtLeastLen
import Derived.Test.YtholpemmakdglaaDoorAA
import Derived.Lib.Hide
import Derived.Deep.DeepCutAuto
import Derived.Deep.CutBlock
import Derived.Deep.LoopGhost
namespace Go.Proofs.YtholpemmakdglaaDoor.PFnMtLeastLen
open Go.RowKit Go.Proofs.YtholpemmakdglaaDoorW.PrintWords Go.Proofs.YtholpemmakdglaaDoorW.PrintLast Go.Proofs.YtholpemmakdglaaDoorW.PrintMore
attribute [local go_sem] max2_int min2_int max_two min_two max_three min_three max_four min_four
set_option linter.unusedVariables false
set_option linter.unusedSimpArgs false
mutual
/-- How many nodes a tree has. -/
def ncT : Tr → Nat
  | ⟨_, _, _, _, _, _, _, ts⟩ => 1 + ncL ts
def ncL : List Tr → Nat
  | [] => 0
  | t :: ts => ncT t + ncL ts
end
def facT (op m0 m1 : Int) : Int := if op = 17 then mx (mx m1 m0) 1 else 1
mutual
/-- Its nodes with all copies. -/
def wgT : Tr → Int
  | ⟨op, _, _, m0, m1, _, _, ts⟩ => wgL ts 1 * facT op m0 m1
def wgL : List Tr → Int → Int
  | [], a => a
  | t :: ts, a => wgL ts (a + wgT t)
end
mutual
/-- A tree that the weighing takes, from height h on. -/
def gdT : Tr → Nat → Prop
  | ⟨op, _, rs, m0, m1, cp, _, ts⟩, h => h ≤ 10000 ∧ sndF op rs m0 m1 cp ts.length = true ∧ (op = 17 → 0 ≤ m0 ∧ m0 ≤ 1000 ∧ -1 ≤ m1 ∧ m1 ≤ 1000) ∧ wgL ts 1 * facT op m0 m1 ≤ 50000 ∧ gdL ts (h + 1)
def gdL : List Tr → Nat → Prop
  | [], _ => True
  | t :: ts, h => gdT t h ∧ gdL ts h
end
mutual
theorem wgT_pos : ∀ t : Tr, 1 ≤ wgT t
  | ⟨op, _, _, m0, m1, _, _, ts⟩ => by
    rw [wgT]
    have h1 := wgL_ge ts 1
    have h2 : 1 ≤ facT op m0 m1 := by unfold facT mx; split <;> (try split) <;> omega
    have := Int.mul_le_mul h1 h2 (by omega) (by omega)
    simpa using this
theorem wgL_ge : ∀ (ts : List Tr) (a : Int), a ≤ wgL ts a
  | [], a => by rw [wgL]; exact Int.le_refl _
  | t :: ts, a => by
    rw [wgL]
    have := wgT_pos t
    have := wgL_ge ts (a + wgT t)
    omega
end
theorem ncT_pos (t : Tr) : 1 ≤ ncT t := by cases t; rw [ncT]; omega
theorem facT_ge (op m0 m1 : Int) : 1 ≤ facT op m0 m1 := by unfold facT mx; split <;> (try split) <;> omega
/-- Element i of a row of trees: its eight cells. -/
theorem elem_at {w : World} {A : Option Addr} {xs : List Tr} {i : Nat} {t : Tr} {ts : List Tr} (h : k40.C w A xs.length xs) (hd : xs.drop i = t :: ts) : ∃ b o A2 c2 A7 c7, A = some ⟨b, o, none⟩ ∧
    w.cell? ⟨b, o + i * 8, none⟩ = some (.int .i64 t.f0) ∧ w.cell? ⟨b, o + i * 8 + 1, none⟩ = some (.int .i64 t.f1) ∧ w.cell? ⟨b, o + i * 8 + 2, none⟩ = some (.slice A2 t.f2.length c2) ∧ w.cell? ⟨b, o + i * 8 + 3, none⟩ = some (.int .i64 t.f3) ∧
    w.cell? ⟨b, o + i * 8 + 4, none⟩ = some (.int .i64 t.f4) ∧ w.cell? ⟨b, o + i * 8 + 5, none⟩ = some (.int .i64 t.f5) ∧ w.cell? ⟨b, o + i * 8 + 6, none⟩ = some (.string t.f6) ∧ w.cell? ⟨b, o + i * 8 + 7, none⟩ = some (.slice A7 t.f7.length c7) ∧
    t.f2.length ≤ c2 ∧ (Kd.int .i32).C w A2 t.f2.length t.f2 ∧ t.f7.length ≤ c7 ∧ k40.C w A7 t.f7.length t.f7 := by
  obtain ⟨hlt, hrd, _⟩ := rd_at hd
  obtain ⟨ad, A2, c2, A7, c7, hA, h0, h1, h2, h3, h4, h5, h6, h7, l2, g2, l7, g7⟩ := at_T40 h (i : Int) (by omega) (by omega)
  rw [hrd] at h0 h1 h2 h3 h4 h5 h6 h7 l2 g2 l7 g7
  rw [Int.toNat_natCast] at h0 h1 h2 h3 h4 h5 h6 h7
  obtain ⟨ad', _, _, _, _, hA', h0', _⟩ := at_T40 h (0 : Int) (by omega) (by omega)
  obtain rfl : ad = ad' := by rw [hA] at hA'; injection hA'
  have hs : ad.spot = none := World.cell?_spot (by simpa [Addr.add] using h0')
  clear h0' hA'
  obtain ⟨b, o, sp⟩ := ad
  simp only at hs
  subst hs
  have ha : (⟨b, o, none⟩ : Addr).add (i * 8) = ⟨b, o + i * 8, none⟩ := Addr.add_lit _ _ _
  rw [ha] at h0 h1 h2 h3 h4 h5 h6 h7
  exact ⟨b, o, A2, c2, A7, c7, hA, h0, h1, h2, h3, h4, h5, h6, h7, l2, g2, l7, g7⟩
theorem blk_all {T : Nat} (w : World) (cs : Array Value) (t : TypeId) (hs : w.heap.size = T) : ∀ j v, cs[j]? = some v → (w.alloc (.cells cs t)).cell? ⟨T, j, none⟩ = some v := by
  intro j v hj
  subst hs
  rw [World.cell?_alloc_new]
  exact hj
set_option maxRecDepth 100000 in
set_option maxHeartbeats 4000000 in
theorem weigh_c : ∀ (N : Nat) (t : Tr) (A2 : Option Addr) (c2 : Nat) (A7 : Option Addr) (c7 : Nat) (h q n : Nat) (W0 w : World), ncT t ≤ N → wfT t → gdT t h → n + ncT t ≤ 50000 →
    (Kd.int .i32).C W0 A2 t.f2.length t.f2 → t.f2.length ≤ c2 → k40.C W0 A7 t.f7.length t.f7 → t.f7.length ≤ c7 → Below W0.heap.size W0 w → W0.heap.size ≤ q →
    w.cell? ⟨q, 0, none⟩ = some (.int .i64 n) → w.frozen? ⟨q, 0, none⟩ = false →
    Calls Tryd.prog 56 #[.agg #[.int .i64 t.f0, .int .i64 t.f1, .slice A2 t.f2.length c2, .int .i64 t.f3, .int .i64 t.f4, .int .i64 t.f5, .string t.f6, .slice A7 t.f7.length c7], .int .i64 h, .pointer (some ⟨q, 0, none⟩)] w fun e w' =>
      e = .returned (.tuple #[.int .i64 (wgT t), .bool true]) ∧ w.grownBy w' (some q) ∧ w'.cell? ⟨q, 0, none⟩ = some (.int .i64 ((n + ncT t : Nat) : Int)) ∧ w'.frozen? ⟨q, 0, none⟩ = false := by
  intro N
  induction N with
  | zero => intro t A2 c2 A7 c7 h q n W0 w hN; have := ncT_pos t; omega
  | succ N ih =>
    intro t A2 c2 A7 c7 h q n W0 w hN hwf hgd hn h2 hc2 h7 hc7 hb0 hq0 hcq hfq
    obtain ⟨op, fl, rs, m0, m1, cp, nm, ts⟩ := t
    rw [wfT] at hwf
    rw [gdT] at hgd
    rw [ncT] at hN hn
    simp only at h2 hc2 h7 hc7
    obtain ⟨hh, hsn, hm01, hwg, hgl⟩ := hgd
    have HM01 := Lib.hid hm01
    clear hm01
    have hql : q < w.heap.size := Gb.lt hcq
    have hrw : wgT ⟨op, fl, rs, m0, m1, cp, nm, ts⟩ = wgL ts 1 * facT op m0 m1 := by rw [wgT]
    have hrn : ncT ⟨op, fl, rs, m0, m1, cp, nm, ts⟩ = 1 + ncL ts := by rw [ncT]
    rw [hrw, hrn]
    clear hrw hrn
    have IH := Lib.hid ih
    clear ih
    -- the check of the node
    obtain ⟨ks, hks⟩ := (snd_ev op fl rs m0 m1 cp nm ts hwf.1).rounds
    rw [hsn] at hks
    have CS : Hid (∀ w1, Below W0.heap.size W0 w1 → Calls Tryd.prog 71 #[.agg #[.int .i64 op, .int .i64 fl, .slice A2 rs.length c2, .int .i64 m0, .int .i64 m1, .int .i64 cp, .string nm, .slice A7 ts.length c7]] w1 fun e w' => e = .returned (.bool true) ∧ Below w1.heap.size w1 w') := Lib.hid fun w1 hb => impl_sound.calls ks op fl A2 c2 rs m0 m1 cp nm A7 c7 ts true w1 (Kd.C_below h2 hb) hc2 (Kd.C_below h7 hb) hc7 hks
    have HGW : Hid (w.grownBy ((w.setCell ⟨q, 0, none⟩ (.int .i64 ((n : Int) + 1))).alloc (.cells #[.int .i64 op, .int .i64 fl, .slice A2 rs.length c2, .int .i64 m0, .int .i64 m1, .int .i64 cp, .string nm, .slice A7 ts.length c7] 40)) (some q)) := Lib.hid (Gb.trans (Gb.set _ _ _ _) (World.grownBy_alloc _ _ _))
    clear hks
    have hsz : (w.setCell ⟨q, 0, none⟩ (.int .i64 ((n : Int) + 1))).heap.size = w.heap.size := by simp [World.setCell]
    have hcells := blk_all (w.setCell ⟨q, 0, none⟩ (.int .i64 ((n : Int) + 1))) #[.int .i64 op, .int .i64 fl, .slice A2 rs.length c2, .int .i64 m0, .int .i64 m1, .int .i64 cp, .string nm, .slice A7 ts.length c7] 40 hsz
    have d0 := hcells 0 _ rfl
    have d1 := hcells 1 _ rfl
    have d2 := hcells 2 _ rfl
    have d3 := hcells 3 _ rfl
    have d4 := hcells 4 _ rfl
    have d5 := hcells 5 _ rfl
    have d6 := hcells 6 _ rfl
    have d7 := hcells 7 _ rfl
    have hqW : ((w.setCell ⟨q, 0, none⟩ (.int .i64 ((n : Int) + 1))).alloc (.cells #[.int .i64 op, .int .i64 fl, .slice A2 rs.length c2, .int .i64 m0, .int .i64 m1, .int .i64 cp, .string nm, .slice A7 ts.length c7] 40)).cell? ⟨q, 0, none⟩ = some (.int .i64 ((n : Int) + 1)) := by go_simp
    have hfW : ((w.setCell ⟨q, 0, none⟩ (.int .i64 ((n : Int) + 1))).alloc (.cells #[.int .i64 op, .int .i64 fl, .slice A2 rs.length c2, .int .i64 m0, .int .i64 m1, .int .i64 cp, .string nm, .slice A7 ts.length c7] 40)).frozen? ⟨q, 0, none⟩ = false := by go_simp
    have hTq : w.heap.size ≠ q := by omega
    have hBW : Below W0.heap.size W0 ((w.setCell ⟨q, 0, none⟩ (.int .i64 ((n : Int) + 1))).alloc (.cells #[.int .i64 op, .int .i64 fl, .slice A2 rs.length c2, .int .i64 m0, .int .i64 m1, .int .i64 cp, .string nm, .slice A7 ts.length c7] 40)) := Gb.toBelow hb0 HGW.out hb0.size hq0
    have HBW := Lib.hid hBW
    have H7 := Lib.hid h7
    clear hcells hsz hBW h7 h2
    go_enter Tryd.func56, Tryd.ntmps56
    go_upto_region 2 with fail
    generalize ((w.setCell ⟨q, 0, none⟩ (.int .i64 ((n : Int) + 1))).alloc (.cells #[.int .i64 op, .int .i64 fl, .slice A2 rs.length c2, .int .i64 m0, .int .i64 m1, .int .i64 cp, .string nm, .slice A7 ts.length c7] 40)) = W at *
    generalize w.heap.size = T0 at *
    have dd1 : decide (10000 < (h : Int)) = false := by simp; omega
    have dd2 : decide (50000 < (n : Int) + 1) = false := by simp; omega
    go_wp2_with fail
    refine (CS.out _ HBW.out).mono ?_
    rintro e w1 ⟨rfl, hb1⟩
    have HB1 := Lib.hid (HBW.out.trans (hb1.mono HBW.out.size))
    have HG1 := Lib.hid (Gb.trans HGW.out (Gb.below hb1 (some q)))
    have hq1 := Gb.cellB hb1 hqW
    have hf1 := (Gb.frozenB hb1 (o := 0) (Gb.lt hqW)).trans hfW
    have e0 := Gb.cellB hb1 d0
    have e3 := Gb.cellB hb1 d3
    have e4 := Gb.cellB hb1 d4
    have e7 := Gb.cellB hb1 d7
    clear hb1 hqW hfW d0 d1 d2 d3 d4 d5 d6 d7 hcq hfq HBW HGW CS dd1 dd2
    go_upto_block 0 with fail
    go_cut [6] (fun s6 wx => s6 = .int .i64 (wgL ts 1) ∧ w.grownBy wx (some q) ∧ wx.cell? ⟨q, 0, none⟩ = some (.int .i64 ((n + (1 + ncL ts) : Nat) : Int)) ∧ wx.frozen? ⟨q, 0, none⟩ = false ∧ wx.cell? ⟨T0, 0, none⟩ = some (.int .i64 op) ∧ wx.cell? ⟨T0, 3, none⟩ = some (.int .i64 m0) ∧ wx.cell? ⟨T0, 4, none⟩ = some (.int .i64 m1))
    case first =>
      have hl7 := H7.out.2.1
      have hfits : Fits ts.length := hl7
      have HGL := Lib.hid hgl
      have HWF := Lib.hid hwf.2.2
      have hwl := wgL_ge ts 1
      have hwm : wgL ts 1 ≤ 50000 := by
        have h2 := facT_ge op m0 m1
        have := Int.mul_le_mul_of_nonneg_left h2 (show 0 ≤ wgL ts 1 by omega)
        omega
      have HWM := Lib.hid hwm
      clear hgl hwf hwg hsn hwl hwm
      go_wp2_with fail
      go_loopg [6, 33] (ts.length + 1) (fun g s6 s33 wx => ∃ (i nn : Nat) (a : Int), s6 = .int .i64 a ∧ s33 = .int .i64 i ∧ i ≤ ts.length ∧ 1 ≤ a ∧ n + 1 ≤ nn ∧ wgL (ts.drop i) a = wgL ts 1 ∧ nn + ncL (ts.drop i) = n + (1 + ncL ts) ∧ gdL (ts.drop i) (h + 1) ∧ wfL (ts.drop i) ∧ w.grownBy wx (some q) ∧ Below W0.heap.size W0 wx ∧ wx.cell? ⟨q, 0, none⟩ = some (.int .i64 nn) ∧ wx.frozen? ⟨q, 0, none⟩ = false ∧ wx.cell? ⟨T0, 0, none⟩ = some (.int .i64 op) ∧ wx.cell? ⟨T0, 3, none⟩ = some (.int .i64 m0) ∧ wx.cell? ⟨T0, 4, none⟩ = some (.int .i64 m1) ∧ ts.length - i < g)
      case atStart => exact ⟨0, n + 1, 1, rfl, rfl, by omega, by omega, by omega, rfl, by rw [List.drop_zero]; omega, HGL.out, HWF.out, HG1.out, HB1.out, by rw [hq1]; rfl, hf1, e0, e3, e4, by omega⟩
      case round =>
        obtain ⟨i, nn, a, rfl, rfl, hi, ha, hn1, hwa, hnn, hgd, hwf, hgw, hbw, hcq, hfq, x0, x3, x4, hg⟩ := hrel
        have HWA := Lib.hid hwa; have HNN := Lib.hid hnn; have HGD := Lib.hid hgd; have HWF2 := Lib.hid hwf; have HG := Lib.hid hgw; have HB := Lib.hid hbw
        clear hwa hnn hgd hwf hgw hbw e0 e3 e4 e7 hq1 hf1
        obtain ⟨g', rfl⟩ : ∃ g', gk = g' + 1 := ⟨gk - 1, by omega⟩
        by_cases hlt : i < ts.length
        · obtain ⟨t, ts', hd⟩ : ∃ t ts', ts.drop i = t :: ts' := by
            cases hdr : ts.drop i with
            | nil => have := List.drop_eq_nil_iff.1 hdr; omega
            | cons t ts' => exact ⟨t, ts', rfl⟩
          obtain ⟨bb, oo, B2, b2, B7, b7, rfl, y0, y1, y2, y3, y4, y5, y6, y7, l2, g2, l7, g7⟩ := elem_at H7.out hd
          have k0 := Gb.cellB HB.out y0
          have k1 := Gb.cellB HB.out y1
          have k2 := Gb.cellB HB.out y2
          have k3 := Gb.cellB HB.out y3
          have k4 := Gb.cellB HB.out y4
          have k5 := Gb.cellB HB.out y5
          have k6 := Gb.cellB HB.out y6
          have k7 := Gb.cellB HB.out y7
          clear y0 y1 y2 y3 y4 y5 y6 y7
          have hd1 := (rd_at hd).2.2
          have hgd := HGD.out; have hwf := HWF2.out; have hnn := HNN.out; have hwa := HWA.out
          rw [hd] at hgd hwf hnn hwa
          rw [gdL] at hgd
          rw [wfL] at hwf
          rw [ncL] at hnn
          rw [wgL] at hwa
          have hwp := wgT_pos t
          have hwg2 := wgL_ge ts' (a + wgT t)
          have hle5 : a + wgT t ≤ 50000 := by have := HWM.out; omega
          have CI : Hid (∀ w1, Below wr.heap.size wr w1 → Calls Tryd.prog 56 #[.agg #[.int .i64 t.f0, .int .i64 t.f1, .slice B2 t.f2.length b2, .int .i64 t.f3, .int .i64 t.f4, .int .i64 t.f5, .string t.f6, .slice B7 t.f7.length b7], .int .i64 ((h : Int) + 1), .pointer (some ⟨q, 0, none⟩)] w1 fun e w' =>
              e = .returned (.tuple #[.int .i64 (wgT t), .bool true]) ∧ w1.grownBy w' (some q) ∧ w'.cell? ⟨q, 0, none⟩ = some (.int .i64 ((nn + ncT t : Nat) : Int)) ∧ w'.frozen? ⟨q, 0, none⟩ = false) := Lib.hid fun w1 hb1 =>
            IH.out t B2 b2 B7 b7 (h + 1) q nn W0 w1 (by omega) hwf.1 hgd.1 (by omega) g2 l2 g7 l7 (HB.out.trans (hb1.mono HB.out.size)) hq0 (Gb.cellB hb1 hcq) ((Gb.frozenB hb1 (Gb.lt hcq)).trans hfq)
          have HD1 := Lib.hid hd1; have HGD2 := Lib.hid hgd.2; have HWF3 := Lib.hid hwf.2; have HNN2 := Lib.hid hnn; have HWA2 := Lib.hid hwa
          have hbn : (h : Int) + 1 ≤ 10001 := by omega
          have HCT := Lib.hid hcq
          have HFT := Lib.hid hfq
          clear hgd hwf hnn hwa hd hd1 l2 g2 l7 g7 hwg2
          have ba : Below wr.heap.size wr (wr.alloc (.cells #[.int .i64 t.f0, .int .i64 t.f1, .slice B2 t.f2.length b2, .int .i64 t.f3, .int .i64 t.f4, .int .i64 t.f5, .string t.f6, .slice B7 t.f7.length b7] 40)) := (Below.refl _ _).alloc (Nat.le_refl _) _
          have BA := Lib.hid ba
          clear ba hcq hfq
          go_wp2_with fail
          refine (CI.out _ BA.out).mono ?_
          rintro e w2 ⟨rfl, hg2, hc2', hf2⟩
          have hg2' := Gb.trans (Gb.below BA.out (some q)) hg2
          have z0 := Gb.cell hg2' x0 (by simpa using hTq)
          have z3 := Gb.cell hg2' x3 (by simpa using hTq)
          have z4 := Gb.cell hg2' x4 (by simpa using hTq)
          have HG2 := Lib.hid (Gb.trans HG.out hg2')
          have HB2 := Lib.hid (Gb.toBelow HB.out hg2' HB.out.size hq0)
          have HC2 := Lib.hid hc2'; have HF2 := Lib.hid hf2; have Z0 := Lib.hid z0; have Z3 := Lib.hid z3; have Z4 := Lib.hid z4
          clear hg2 hg2' hc2' hf2 z0 z3 z4 k0 k1 k2 k3 k4 k5 k6 k7 x0 x3 x4
          go_wp2
          go_roundg g'
          case rel => exact ⟨i + 1, nn + ncT t, a + wgT t, rfl, by go_num, by omega, by omega, by omega, by rw [HD1.out]; exact HWA2.out, by rw [HD1.out]; have := HNN2.out; omega, by rw [HD1.out]; exact HGD2.out, by rw [HD1.out]; exact HWF3.out, HG2.out, HB2.out, HC2.out, HF2.out, Z0.out, Z3.out, Z4.out, by omega⟩
          case measure => omega
        · obtain rfl : i = ts.length := by omega
          have hwa := HWA.out; have hnn := HNN.out
          rw [List.drop_length, wgL] at hwa
          rw [List.drop_length, ncL] at hnn
          have HC := Lib.hid hcq; have HF := Lib.hid hfq; have X0 := Lib.hid x0; have X3 := Lib.hid x3; have X4 := Lib.hid x4
          have HWA2 := Lib.hid hwa
          have HNN2 : Hid (nn = n + (1 + ncL ts)) := Lib.hid (by omega)
          clear hwa hnn hcq hfq x0 x3 x4
          go_wp2
          go_meet
          exact ⟨by rw [HWA2.out], HG.out, by rw [← HNN2.out]; exact HC.out, HF.out, X0.out, X3.out, X4.out⟩
    case rest =>
      obtain ⟨rfl, hgw, hcq, hfq, x0, x3, x4⟩ := hcut
      have hw1 := wgL_ge ts 1
      have hf1 := facT_ge op m0 m1
      have hwm : wgL ts 1 ≤ 50000 := by
        have := Int.mul_le_mul_of_nonneg_left hf1 (show 0 ≤ wgL ts 1 by omega)
        omega
      have HG := Lib.hid hgw; have HC := Lib.hid hcq; have HF := Lib.hid hfq
      clear hgw hcq hfq hwf hgl hsn e0 e3 e4 e7 hq1
      generalize hW1 : wgL ts 1 = W1 at *
      have HW1 := Lib.hid hW1
      clear hW1
      by_cases h17 : op = 17
      · have hfac : facT op m0 m1 = mx (mx m1 m0) 1 := by unfold facT; rw [if_pos h17]
        have hb17 : (op == 17) = true := by simpa using h17
        have HFAC := Lib.hid hfac
        obtain ⟨_, hm0, _, hm1⟩ := HM01.out h17
        rw [hfac] at hwg hf1
        have hmx : mx (mx m1 m0) 1 ≤ 1000 := by
          unfold mx
          repeat' split
          all_goals omega
        clear h17 hfac
        generalize hMX : mx (mx m1 m0) 1 = MX at *
        have HMX := Lib.hid hMX
        have hmxs : (if (if m1 < m0 then m0 else m1) < 1 then 1 else if m1 < m0 then m0 else m1) = MX := hMX
        have hwr : wrap64 (W1 * MX) = W1 * MX := by
          have h0 : 0 ≤ W1 * MX := Int.mul_nonneg (by omega) (by omega)
          unfold wrap64; omega
        have hle : ¬ 50000 < W1 * MX := by omega
        clear hMX
        go_wp2
        go_ret2
        exact ⟨by rw [HFAC.out, HW1.out]; rfl, HG.out, HC.out, HF.out⟩
      · have hfac : facT op m0 m1 = 1 := by unfold facT; rw [if_neg h17]
        have hb17 : (op == 17) = false := by simpa using h17
        have HFAC := Lib.hid hfac
        clear h17 hfac hwg hf1
        go_wp2
        go_ret2
        exact ⟨by rw [HFAC.out, Int.mul_one, HW1.out]; rfl, HG.out, HC.out, HF.out⟩
end Go.Proofs.YtholpemmakdglaaDoor.PFnMtLeastLen
namespace Go.Proofs.YtholpemmakdglaaDoor.PFnMtLeastLen
open Go.RowKit Go.Proofs.YtholpemmakdglaaDoorW.PrintWords Go.Proofs.YtholpemmakdglaaDoorW.PrintLast Go.Proofs.YtholpemmakdglaaDoorW.PrintMore
set_option linter.unusedVariables false
mutual
/-- All nodes are such as the thin package takes. -/
def snT : Tr → Prop
  | ⟨op, fl, rs, m0, m1, cp, nm, ts⟩ => sndF op rs m0 m1 cp ts.length = true ∧ snL ts
def snL : List Tr → Prop
  | [] => True
  | t :: ts => snT t ∧ snL ts
end
mutual
theorem sn_gd : ∀ (t : Tr) (h : Nat), gdT t h → snT t
  | ⟨op, fl, rs, m0, m1, cp, nm, ts⟩, h, g => by
    rw [gdT] at g
    rw [snT]
    exact ⟨g.2.1, snL_gd ts _ g.2.2.2.2⟩
theorem snL_gd : ∀ (ts : List Tr) (h : Nat), gdL ts h → snL ts
  | [], _, _ => by rw [snL]; trivial
  | t :: ts, h, g => by
    rw [gdL] at g
    rw [snL]
    exact ⟨sn_gd t h g.1, snL_gd ts h g.2⟩
end
/-- What a node's check tells. -/
theorem snd_facts {op : Int} {rs : List Int} {m0 m1 cp : Int} {sub : Nat} (h : sndF op rs m0 m1 cp sub = true) :
    1 ≤ op ∧ op ≤ 19 ∧ (op ≤ 12 → sub = 0) ∧ (13 ≤ op → op ≤ 17 → sub = 1) ∧ (op = 17 → 0 ≤ m0 ∧ m0 ≤ 1000 ∧ -1 ≤ m1 ∧ m1 ≤ 1000 ∧ (m1 < 0 ∨ m0 ≤ m1)) := by
  unfold sndF at h
  by_cases h1 : op = 1 ∨ op = 2 ∨ (5 ≤ op ∧ op ≤ 12)
  · rw [if_pos h1] at h
    have : sub = 0 := by simpa using h
    exact ⟨by omega, by omega, fun _ => this, fun _ _ => by omega, fun _ => by omega⟩
  rw [if_neg h1] at h
  by_cases h3 : op = 3
  · rw [if_pos h3] at h
    simp only [Bool.and_eq_true, beq_iff_eq] at h
    exact ⟨by omega, by omega, fun _ => by omega, fun _ _ => by omega, fun _ => by omega⟩
  rw [if_neg h3] at h
  by_cases h4 : op = 4
  · rw [if_pos h4] at h
    simp only [Bool.and_eq_true, beq_iff_eq] at h
    exact ⟨by omega, by omega, fun _ => by omega, fun _ _ => by omega, fun _ => by omega⟩
  rw [if_neg h4] at h
  by_cases h13 : op = 13
  · rw [if_pos h13] at h
    simp only [Bool.and_eq_true, beq_iff_eq, decide_eq_true_eq] at h
    exact ⟨by omega, by omega, fun _ => by omega, fun _ _ => by omega, fun _ => by omega⟩
  rw [if_neg h13] at h
  by_cases h14 : op = 14 ∨ op = 15 ∨ op = 16
  · rw [if_pos h14] at h
    simp only [beq_iff_eq] at h
    exact ⟨by omega, by omega, fun _ => by omega, fun _ _ => by omega, fun _ => by omega⟩
  rw [if_neg h14] at h
  by_cases h17 : op = 17
  · rw [if_pos h17] at h
    simp only [Bool.and_eq_true, Bool.or_eq_true, beq_iff_eq, decide_eq_true_eq] at h
    exact ⟨by omega, by omega, fun _ => by omega, fun _ _ => by omega, fun _ => by omega⟩
  rw [if_neg h17] at h
  by_cases h18 : op = 18
  · exact ⟨by omega, by omega, fun _ => by omega, fun _ _ => by omega, fun _ => by omega⟩
  rw [if_neg h18] at h
  by_cases h19 : op = 19
  · exact ⟨by omega, by omega, fun _ => by omega, fun _ _ => by omega, fun _ => by omega⟩
  rw [if_neg h19] at h
  cases h
theorem snd_alt {op : Int} {rs : List Int} {m0 m1 cp : Int} {sub : Nat} (h : sndF op rs m0 m1 cp sub = true) (ho : op = 19) : 0 < sub := by
  subst ho
  have e : sndF 19 rs m0 m1 cp sub = decide ((sub : Int) > 0) := rfl
  rw [e] at h
  simp at h
  exact h
end Go.Proofs.YtholpemmakdglaaDoor.PFnMtLeastLen
