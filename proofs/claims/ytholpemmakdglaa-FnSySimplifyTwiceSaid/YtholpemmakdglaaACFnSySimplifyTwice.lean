/- The thin package's weighing of a tree. What Simplify makes of a tree, in plain Lean: its form, and that a second time changes nothing. A simplified tree: how many nodes it has, and that the thin package takes it. The reference finds two trees the same that differ in nothing but what their operators have no use for. -/
import Derived.Test.YtholpemmakdglaaABFnSySimplifyTwice
import Derived.Test.YtholpemmakdglaaAA
import Derived.Lib.Hide
import Derived.Deep.DeepCutAuto
import Derived.Deep.CutBlock
import Derived.Deep.LoopGhost
namespace Go.Proofs.Ytholpemmakdglaa.PFnSySimplifyTwice
open Go.RowKit Go.Proofs.YtholpemmakdglaaW.PrintWords Go.Proofs.YtholpemmakdglaaW.PrintLast Go.Proofs.YtholpemmakdglaaW.PrintMore
attribute [local go_sem] max2_int min2_int max_two min_two max_three min_three max_four min_four
set_option linter.unusedVariables false
set_option linter.unusedSimpArgs false
mutual
/-- How many nodes a tree has. -/
def ncT : Tr → Nat
  | ⟨_, _, _, _, _, _, _, ts⟩ => 1 + ncL ts
def ncL : List Tr → Nat
  | [] => 0
  | t :: ts => ncT t + ncL ts
end
def facT (op m0 m1 : Int) : Int := if op = 17 then mx (mx m1 m0) 1 else 1
mutual
/-- Its nodes with all copies. -/
def wgT : Tr → Int
  | ⟨op, _, _, m0, m1, _, _, ts⟩ => wgL ts 1 * facT op m0 m1
def wgL : List Tr → Int → Int
  | [], a => a
  | t :: ts, a => wgL ts (a + wgT t)
end
mutual
/-- A tree that the weighing takes, from height h on. -/
def gdT : Tr → Nat → Prop
  | ⟨op, _, rs, m0, m1, cp, _, ts⟩, h => h ≤ 10000 ∧ sndF op rs m0 m1 cp ts.length = true ∧ (op = 17 → 0 ≤ m0 ∧ m0 ≤ 1000 ∧ -1 ≤ m1 ∧ m1 ≤ 1000) ∧ wgL ts 1 * facT op m0 m1 ≤ 50000 ∧ gdL ts (h + 1)
def gdL : List Tr → Nat → Prop
  | [], _ => True
  | t :: ts, h => gdT t h ∧ gdL ts h
end
mutual
theorem wgT_pos : ∀ t : Tr, 1 ≤ wgT t
  | ⟨op, _, _, m0, m1, _, _, ts⟩ => by
    rw [wgT]
    have h1 := wgL_ge ts 1
    have h2 : 1 ≤ facT op m0 m1 := by unfold facT mx; split <;> (try split) <;> omega
    have := Int.mul_le_mul h1 h2 (by omega) (by omega)
    simpa using this
theorem wgL_ge : ∀ (ts : List Tr) (a : Int), a ≤ wgL ts a
  | [], a => by rw [wgL]; exact Int.le_refl _
  | t :: ts, a => by
    rw [wgL]
    have := wgT_pos t
    have := wgL_ge ts (a + wgT t)
    omega
end
theorem ncT_pos (t : Tr) : 1 ≤ ncT t := by cases t; rw [ncT]; omega
theorem facT_ge (op m0 m1 : Int) : 1 ≤ facT op m0 m1 := by unfold facT mx; split <;> (try split) <;> omega
/-- Element i of a row of trees: its eight cells. -/
theorem elem_at {w : World} {A : Option Addr} {xs : List Tr} {i : Nat} {t : Tr} {ts : List Tr} (h : k35.C w A xs.length xs) (hd : xs.drop i = t :: ts) : ∃ b o A2 c2 A7 c7, A = some ⟨b, o, none⟩ ∧
    w.cell? ⟨b, o + i * 8, none⟩ = some (.int .i64 t.f0) ∧ w.cell? ⟨b, o + i * 8 + 1, none⟩ = some (.int .i64 t.f1) ∧ w.cell? ⟨b, o + i * 8 + 2, none⟩ = some (.slice A2 t.f2.length c2) ∧ w.cell? ⟨b, o + i * 8 + 3, none⟩ = some (.int .i64 t.f3) ∧
    w.cell? ⟨b, o + i * 8 + 4, none⟩ = some (.int .i64 t.f4) ∧ w.cell? ⟨b, o + i * 8 + 5, none⟩ = some (.int .i64 t.f5) ∧ w.cell? ⟨b, o + i * 8 + 6, none⟩ = some (.string t.f6) ∧ w.cell? ⟨b, o + i * 8 + 7, none⟩ = some (.slice A7 t.f7.length c7) ∧
    t.f2.length ≤ c2 ∧ (Kd.int .i32).C w A2 t.f2.length t.f2 ∧ t.f7.length ≤ c7 ∧ k35.C w A7 t.f7.length t.f7 := by
  obtain ⟨hlt, hrd, _⟩ := rd_at hd
  obtain ⟨ad, A2, c2, A7, c7, hA, h0, h1, h2, h3, h4, h5, h6, h7, l2, g2, l7, g7⟩ := at_T35 h (i : Int) (by omega) (by omega)
  rw [hrd] at h0 h1 h2 h3 h4 h5 h6 h7 l2 g2 l7 g7
  rw [Int.toNat_natCast] at h0 h1 h2 h3 h4 h5 h6 h7
  obtain ⟨ad', _, _, _, _, hA', h0', _⟩ := at_T35 h (0 : Int) (by omega) (by omega)
  obtain rfl : ad = ad' := by rw [hA] at hA'; injection hA'
  have hs : ad.spot = none := World.cell?_spot (by simpa [Addr.add] using h0')
  clear h0' hA'
  obtain ⟨b, o, sp⟩ := ad
  simp only at hs
  subst hs
  have ha : (⟨b, o, none⟩ : Addr).add (i * 8) = ⟨b, o + i * 8, none⟩ := Addr.add_lit _ _ _
  rw [ha] at h0 h1 h2 h3 h4 h5 h6 h7
  exact ⟨b, o, A2, c2, A7, c7, hA, h0, h1, h2, h3, h4, h5, h6, h7, l2, g2, l7, g7⟩
theorem blk_all {T : Nat} (w : World) (cs : Array Value) (t : TypeId) (hs : w.heap.size = T) : ∀ j v, cs[j]? = some v → (w.alloc (.cells cs t)).cell? ⟨T, j, none⟩ = some v := by
  intro j v hj
  subst hs
  rw [World.cell?_alloc_new]
  exact hj
set_option maxRecDepth 100000 in
set_option maxHeartbeats 4000000 in
theorem weigh_c : ∀ (N : Nat) (t : Tr) (A2 : Option Addr) (c2 : Nat) (A7 : Option Addr) (c7 : Nat) (h q n : Nat) (W0 w : World), ncT t ≤ N → wfT t → gdT t h → n + ncT t ≤ 50000 →
    (Kd.int .i32).C W0 A2 t.f2.length t.f2 → t.f2.length ≤ c2 → k35.C W0 A7 t.f7.length t.f7 → t.f7.length ≤ c7 → Below W0.heap.size W0 w → W0.heap.size ≤ q →
    w.cell? ⟨q, 0, none⟩ = some (.int .i64 n) → w.frozen? ⟨q, 0, none⟩ = false →
    Calls Try.prog 40 #[.agg #[.int .i64 t.f0, .int .i64 t.f1, .slice A2 t.f2.length c2, .int .i64 t.f3, .int .i64 t.f4, .int .i64 t.f5, .string t.f6, .slice A7 t.f7.length c7], .int .i64 h, .pointer (some ⟨q, 0, none⟩)] w fun e w' =>
      e = .returned (.tuple #[.int .i64 (wgT t), .bool true]) ∧ w.grownBy w' (some q) ∧ w'.cell? ⟨q, 0, none⟩ = some (.int .i64 ((n + ncT t : Nat) : Int)) ∧ w'.frozen? ⟨q, 0, none⟩ = false := by
  intro N
  induction N with
  | zero => intro t A2 c2 A7 c7 h q n W0 w hN; have := ncT_pos t; omega
  | succ N ih =>
    intro t A2 c2 A7 c7 h q n W0 w hN hwf hgd hn h2 hc2 h7 hc7 hb0 hq0 hcq hfq
    obtain ⟨op, fl, rs, m0, m1, cp, nm, ts⟩ := t
    rw [wfT] at hwf
    rw [gdT] at hgd
    rw [ncT] at hN hn
    simp only at h2 hc2 h7 hc7
    obtain ⟨hh, hsn, hm01, hwg, hgl⟩ := hgd
    have HM01 := Lib.hid hm01
    clear hm01
    have hql : q < w.heap.size := Gb.lt hcq
    have hrw : wgT ⟨op, fl, rs, m0, m1, cp, nm, ts⟩ = wgL ts 1 * facT op m0 m1 := by rw [wgT]
    have hrn : ncT ⟨op, fl, rs, m0, m1, cp, nm, ts⟩ = 1 + ncL ts := by rw [ncT]
    rw [hrw, hrn]
    clear hrw hrn
    have IH := Lib.hid ih
    clear ih
    -- the check of the node
    obtain ⟨ks, hks⟩ := (snd_ev op fl rs m0 m1 cp nm ts hwf.1).rounds
    rw [hsn] at hks
    have CS : Hid (∀ w1, Below W0.heap.size W0 w1 → Calls Try.prog 50 #[.agg #[.int .i64 op, .int .i64 fl, .slice A2 rs.length c2, .int .i64 m0, .int .i64 m1, .int .i64 cp, .string nm, .slice A7 ts.length c7]] w1 fun e w' => e = .returned (.bool true) ∧ Below w1.heap.size w1 w') := Lib.hid fun w1 hb => impl_sound.calls ks op fl A2 c2 rs m0 m1 cp nm A7 c7 ts true w1 (Kd.C_below h2 hb) hc2 (Kd.C_below h7 hb) hc7 hks
    have HGW : Hid (w.grownBy ((w.setCell ⟨q, 0, none⟩ (.int .i64 ((n : Int) + 1))).alloc (.cells #[.int .i64 op, .int .i64 fl, .slice A2 rs.length c2, .int .i64 m0, .int .i64 m1, .int .i64 cp, .string nm, .slice A7 ts.length c7] 35)) (some q)) := Lib.hid (Gb.trans (Gb.set _ _ _ _) (World.grownBy_alloc _ _ _))
    clear hks
    have hsz : (w.setCell ⟨q, 0, none⟩ (.int .i64 ((n : Int) + 1))).heap.size = w.heap.size := by simp [World.setCell]
    have hcells := blk_all (w.setCell ⟨q, 0, none⟩ (.int .i64 ((n : Int) + 1))) #[.int .i64 op, .int .i64 fl, .slice A2 rs.length c2, .int .i64 m0, .int .i64 m1, .int .i64 cp, .string nm, .slice A7 ts.length c7] 35 hsz
    have d0 := hcells 0 _ rfl
    have d1 := hcells 1 _ rfl
    have d2 := hcells 2 _ rfl
    have d3 := hcells 3 _ rfl
    have d4 := hcells 4 _ rfl
    have d5 := hcells 5 _ rfl
    have d6 := hcells 6 _ rfl
    have d7 := hcells 7 _ rfl
    have hqW : ((w.setCell ⟨q, 0, none⟩ (.int .i64 ((n : Int) + 1))).alloc (.cells #[.int .i64 op, .int .i64 fl, .slice A2 rs.length c2, .int .i64 m0, .int .i64 m1, .int .i64 cp, .string nm, .slice A7 ts.length c7] 35)).cell? ⟨q, 0, none⟩ = some (.int .i64 ((n : Int) + 1)) := by go_simp
    have hfW : ((w.setCell ⟨q, 0, none⟩ (.int .i64 ((n : Int) + 1))).alloc (.cells #[.int .i64 op, .int .i64 fl, .slice A2 rs.length c2, .int .i64 m0, .int .i64 m1, .int .i64 cp, .string nm, .slice A7 ts.length c7] 35)).frozen? ⟨q, 0, none⟩ = false := by go_simp
    have hTq : w.heap.size ≠ q := by omega
    have hBW : Below W0.heap.size W0 ((w.setCell ⟨q, 0, none⟩ (.int .i64 ((n : Int) + 1))).alloc (.cells #[.int .i64 op, .int .i64 fl, .slice A2 rs.length c2, .int .i64 m0, .int .i64 m1, .int .i64 cp, .string nm, .slice A7 ts.length c7] 35)) := Gb.toBelow hb0 HGW.out hb0.size hq0
    have HBW := Lib.hid hBW
    have H7 := Lib.hid h7
    clear hcells hsz hBW h7 h2
    go_enter Try.func40, Try.ntmps40
    go_upto_region 2 with fail
    generalize ((w.setCell ⟨q, 0, none⟩ (.int .i64 ((n : Int) + 1))).alloc (.cells #[.int .i64 op, .int .i64 fl, .slice A2 rs.length c2, .int .i64 m0, .int .i64 m1, .int .i64 cp, .string nm, .slice A7 ts.length c7] 35)) = W at *
    generalize w.heap.size = T0 at *
    have dd1 : decide (10000 < (h : Int)) = false := by simp; omega
    have dd2 : decide (50000 < (n : Int) + 1) = false := by simp; omega
    go_wp2_with fail
    refine (CS.out _ HBW.out).mono ?_
    rintro e w1 ⟨rfl, hb1⟩
    have HB1 := Lib.hid (HBW.out.trans (hb1.mono HBW.out.size))
    have HG1 := Lib.hid (Gb.trans HGW.out (Gb.below hb1 (some q)))
    have hq1 := Gb.cellB hb1 hqW
    have hf1 := (Gb.frozenB hb1 (o := 0) (Gb.lt hqW)).trans hfW
    have e0 := Gb.cellB hb1 d0
    have e3 := Gb.cellB hb1 d3
    have e4 := Gb.cellB hb1 d4
    have e7 := Gb.cellB hb1 d7
    clear hb1 hqW hfW d0 d1 d2 d3 d4 d5 d6 d7 hcq hfq HBW HGW CS dd1 dd2
    go_upto_block 0 with fail
    go_cut [6] (fun s6 wx => s6 = .int .i64 (wgL ts 1) ∧ w.grownBy wx (some q) ∧ wx.cell? ⟨q, 0, none⟩ = some (.int .i64 ((n + (1 + ncL ts) : Nat) : Int)) ∧ wx.frozen? ⟨q, 0, none⟩ = false ∧ wx.cell? ⟨T0, 0, none⟩ = some (.int .i64 op) ∧ wx.cell? ⟨T0, 3, none⟩ = some (.int .i64 m0) ∧ wx.cell? ⟨T0, 4, none⟩ = some (.int .i64 m1))
    case first =>
      have hl7 := H7.out.2.1
      have hfits : Fits ts.length := hl7
      have HGL := Lib.hid hgl
      have HWF := Lib.hid hwf.2.2
      have hwl := wgL_ge ts 1
      have hwm : wgL ts 1 ≤ 50000 := by
        have h2 := facT_ge op m0 m1
        have := Int.mul_le_mul_of_nonneg_left h2 (show 0 ≤ wgL ts 1 by omega)
        omega
      have HWM := Lib.hid hwm
      clear hgl hwf hwg hsn hwl hwm
      go_wp2_with fail
      go_loopg [6, 33] (ts.length + 1) (fun g s6 s33 wx => ∃ (i nn : Nat) (a : Int), s6 = .int .i64 a ∧ s33 = .int .i64 i ∧ i ≤ ts.length ∧ 1 ≤ a ∧ n + 1 ≤ nn ∧ wgL (ts.drop i) a = wgL ts 1 ∧ nn + ncL (ts.drop i) = n + (1 + ncL ts) ∧ gdL (ts.drop i) (h + 1) ∧ wfL (ts.drop i) ∧ w.grownBy wx (some q) ∧ Below W0.heap.size W0 wx ∧ wx.cell? ⟨q, 0, none⟩ = some (.int .i64 nn) ∧ wx.frozen? ⟨q, 0, none⟩ = false ∧ wx.cell? ⟨T0, 0, none⟩ = some (.int .i64 op) ∧ wx.cell? ⟨T0, 3, none⟩ = some (.int .i64 m0) ∧ wx.cell? ⟨T0, 4, none⟩ = some (.int .i64 m1) ∧ ts.length - i < g)
      case atStart => exact ⟨0, n + 1, 1, rfl, rfl, by omega, by omega, by omega, rfl, by rw [List.drop_zero]; omega, HGL.out, HWF.out, HG1.out, HB1.out, by rw [hq1]; rfl, hf1, e0, e3, e4, by omega⟩
      case round =>
        obtain ⟨i, nn, a, rfl, rfl, hi, ha, hn1, hwa, hnn, hgd, hwf, hgw, hbw, hcq, hfq, x0, x3, x4, hg⟩ := hrel
        have HWA := Lib.hid hwa; have HNN := Lib.hid hnn; have HGD := Lib.hid hgd; have HWF2 := Lib.hid hwf; have HG := Lib.hid hgw; have HB := Lib.hid hbw
        clear hwa hnn hgd hwf hgw hbw e0 e3 e4 e7 hq1 hf1
        obtain ⟨g', rfl⟩ : ∃ g', gk = g' + 1 := ⟨gk - 1, by omega⟩
        by_cases hlt : i < ts.length
        · obtain ⟨t, ts', hd⟩ : ∃ t ts', ts.drop i = t :: ts' := by
            cases hdr : ts.drop i with
            | nil => have := List.drop_eq_nil_iff.1 hdr; omega
            | cons t ts' => exact ⟨t, ts', rfl⟩
          obtain ⟨bb, oo, B2, b2, B7, b7, rfl, y0, y1, y2, y3, y4, y5, y6, y7, l2, g2, l7, g7⟩ := elem_at H7.out hd
          have k0 := Gb.cellB HB.out y0
          have k1 := Gb.cellB HB.out y1
          have k2 := Gb.cellB HB.out y2
          have k3 := Gb.cellB HB.out y3
          have k4 := Gb.cellB HB.out y4
          have k5 := Gb.cellB HB.out y5
          have k6 := Gb.cellB HB.out y6
          have k7 := Gb.cellB HB.out y7
          clear y0 y1 y2 y3 y4 y5 y6 y7
          have hd1 := (rd_at hd).2.2
          have hgd := HGD.out; have hwf := HWF2.out; have hnn := HNN.out; have hwa := HWA.out
          rw [hd] at hgd hwf hnn hwa
          rw [gdL] at hgd
          rw [wfL] at hwf
          rw [ncL] at hnn
          rw [wgL] at hwa
          have hwp := wgT_pos t
          have hwg2 := wgL_ge ts' (a + wgT t)
          have hle5 : a + wgT t ≤ 50000 := by have := HWM.out; omega
          have CI : Hid (∀ w1, Below wr.heap.size wr w1 → Calls Try.prog 40 #[.agg #[.int .i64 t.f0, .int .i64 t.f1, .slice B2 t.f2.length b2, .int .i64 t.f3, .int .i64 t.f4, .int .i64 t.f5, .string t.f6, .slice B7 t.f7.length b7], .int .i64 ((h : Int) + 1), .pointer (some ⟨q, 0, none⟩)] w1 fun e w' =>
              e = .returned (.tuple #[.int .i64 (wgT t), .bool true]) ∧ w1.grownBy w' (some q) ∧ w'.cell? ⟨q, 0, none⟩ = some (.int .i64 ((nn + ncT t : Nat) : Int)) ∧ w'.frozen? ⟨q, 0, none⟩ = false) := Lib.hid fun w1 hb1 =>
            IH.out t B2 b2 B7 b7 (h + 1) q nn W0 w1 (by omega) hwf.1 hgd.1 (by omega) g2 l2 g7 l7 (HB.out.trans (hb1.mono HB.out.size)) hq0 (Gb.cellB hb1 hcq) ((Gb.frozenB hb1 (Gb.lt hcq)).trans hfq)
          have HD1 := Lib.hid hd1; have HGD2 := Lib.hid hgd.2; have HWF3 := Lib.hid hwf.2; have HNN2 := Lib.hid hnn; have HWA2 := Lib.hid hwa
          have hbn : (h : Int) + 1 ≤ 10001 := by omega
          have HCT := Lib.hid hcq
          have HFT := Lib.hid hfq
          clear hgd hwf hnn hwa hd hd1 l2 g2 l7 g7 hwg2
          have ba : Below wr.heap.size wr (wr.alloc (.cells #[.int .i64 t.f0, .int .i64 t.f1, .slice B2 t.f2.length b2, .int .i64 t.f3, .int .i64 t.f4, .int .i64 t.f5, .string t.f6, .slice B7 t.f7.length b7] 35)) := (Below.refl _ _).alloc (Nat.le_refl _) _
          have BA := Lib.hid ba
          clear ba hcq hfq
          go_wp2_with fail
          refine (CI.out _ BA.out).mono ?_
          rintro e w2 ⟨rfl, hg2, hc2', hf2⟩
          have hg2' := Gb.trans (Gb.below BA.out (some q)) hg2
          have z0 := Gb.cell hg2' x0 (by simpa using hTq)
          have z3 := Gb.cell hg2' x3 (by simpa using hTq)
          have z4 := Gb.cell hg2' x4 (by simpa using hTq)
          have HG2 := Lib.hid (Gb.trans HG.out hg2')
          have HB2 := Lib.hid (Gb.toBelow HB.out hg2' HB.out.size hq0)
          have HC2 := Lib.hid hc2'; have HF2 := Lib.hid hf2; have Z0 := Lib.hid z0; have Z3 := Lib.hid z3; have Z4 := Lib.hid z4
          clear hg2 hg2' hc2' hf2 z0 z3 z4 k0 k1 k2 k3 k4 k5 k6 k7 x0 x3 x4
          go_wp2
          go_roundg g'
          case rel => exact ⟨i + 1, nn + ncT t, a + wgT t, rfl, by go_num, by omega, by omega, by omega, by rw [HD1.out]; exact HWA2.out, by rw [HD1.out]; have := HNN2.out; omega, by rw [HD1.out]; exact HGD2.out, by rw [HD1.out]; exact HWF3.out, HG2.out, HB2.out, HC2.out, HF2.out, Z0.out, Z3.out, Z4.out, by omega⟩
          case measure => omega
        · obtain rfl : i = ts.length := by omega
          have hwa := HWA.out; have hnn := HNN.out
          rw [List.drop_length, wgL] at hwa
          rw [List.drop_length, ncL] at hnn
          have HC := Lib.hid hcq; have HF := Lib.hid hfq; have X0 := Lib.hid x0; have X3 := Lib.hid x3; have X4 := Lib.hid x4
          have HWA2 := Lib.hid hwa
          have HNN2 : Hid (nn = n + (1 + ncL ts)) := Lib.hid (by omega)
          clear hwa hnn hcq hfq x0 x3 x4
          go_wp2
          go_meet
          exact ⟨by rw [HWA2.out], HG.out, by rw [← HNN2.out]; exact HC.out, HF.out, X0.out, X3.out, X4.out⟩
    case rest =>
      obtain ⟨rfl, hgw, hcq, hfq, x0, x3, x4⟩ := hcut
      have hw1 := wgL_ge ts 1
      have hf1 := facT_ge op m0 m1
      have hwm : wgL ts 1 ≤ 50000 := by
        have := Int.mul_le_mul_of_nonneg_left hf1 (show 0 ≤ wgL ts 1 by omega)
        omega
      have HG := Lib.hid hgw; have HC := Lib.hid hcq; have HF := Lib.hid hfq
      clear hgw hcq hfq hwf hgl hsn e0 e3 e4 e7 hq1
      generalize hW1 : wgL ts 1 = W1 at *
      have HW1 := Lib.hid hW1
      clear hW1
      by_cases h17 : op = 17
      · have hfac : facT op m0 m1 = mx (mx m1 m0) 1 := by unfold facT; rw [if_pos h17]
        have hb17 : (op == 17) = true := by simpa using h17
        have HFAC := Lib.hid hfac
        obtain ⟨_, hm0, _, hm1⟩ := HM01.out h17
        rw [hfac] at hwg hf1
        have hmx : mx (mx m1 m0) 1 ≤ 1000 := by
          unfold mx
          repeat' split
          all_goals omega
        clear h17 hfac
        generalize hMX : mx (mx m1 m0) 1 = MX at *
        have HMX := Lib.hid hMX
        have hmxs : (if (if m1 < m0 then m0 else m1) < 1 then 1 else if m1 < m0 then m0 else m1) = MX := hMX
        have hwr : wrap64 (W1 * MX) = W1 * MX := by
          have h0 : 0 ≤ W1 * MX := Int.mul_nonneg (by omega) (by omega)
          unfold wrap64; omega
        have hle : ¬ 50000 < W1 * MX := by omega
        clear hMX
        go_wp2
        go_ret2
        exact ⟨by rw [HFAC.out, HW1.out]; rfl, HG.out, HC.out, HF.out⟩
      · have hfac : facT op m0 m1 = 1 := by unfold facT; rw [if_neg h17]
        have hb17 : (op == 17) = false := by simpa using h17
        have HFAC := Lib.hid hfac
        clear h17 hfac hwg hf1
        go_wp2
        go_ret2
        exact ⟨by rw [HFAC.out, Int.mul_one, HW1.out]; rfl, HG.out, HC.out, HF.out⟩
end Go.Proofs.Ytholpemmakdglaa.PFnSySimplifyTwice
namespace Go.Proofs.Ytholpemmakdglaa.PFnSySimplifyTwice
open Go.RowKit Go.Proofs.YtholpemmakdglaaW.PrintWords Go.Proofs.YtholpemmakdglaaW.PrintLast Go.Proofs.YtholpemmakdglaaW.PrintMore
set_option linter.unusedVariables false
/-- A node without what its operator has no use for. -/
def nmN (op fl : Int) (rs : List Int) (m0 m1 cp : Int) (nm : ByteArray) (ts : List Tr) : Tr :=
  ⟨op, fl, if op = 3 ∨ op = 4 then rs else [], if op = 17 then m0 else 0, if op = 17 then m1 else 0, if op = 13 then cp else 0, if op = 13 then nm else ByteArray.empty, ts⟩
mutual
def nmT : Tr → Tr
  | ⟨op, fl, rs, m0, m1, cp, nm, ts⟩ => nmN op fl rs m0 m1 cp nm (nmL ts)
def nmL : List Tr → List Tr
  | [] => []
  | t :: ts => nmT t :: nmL ts
end
/-- Whether a loop prefers few. -/
def ngF (fl : Int) : Int := bits BinOp.and IntKind.u16 fl 32
def emT : Tr := ⟨2, 0, [], 0, 0, 0, ByteArray.empty, []⟩
def noT : Tr := ⟨1, 0, [], 0, 0, 0, ByteArray.empty, []⟩
def catT (ts : List Tr) : Tr := ⟨18, 0, [], 0, 0, 0, ByteArray.empty, ts⟩
def unT (op fl : Int) (s : Tr) : Tr := ⟨op, fl, [], 0, 0, 0, ByteArray.empty, [s]⟩
/-- A loop around a simple tree. -/
def s1 (op fl : Int) (s : Tr) : Tr := if s.f0 = 2 then s else if op = s.f0 ∧ ngF fl = ngF s.f1 then s else unT op fl s
/-- (x(x(x)?)?)? -/
def sfx (fl : Int) (s : Tr) : Nat → Tr
  | 0 => s1 16 fl s
  | k + 1 => s1 16 fl (catT [s, sfx fl s k])
def repF (fl m0 m1 : Int) (s : Tr) : Tr :=
  if m0 = 0 ∧ m1 = 0 then emT
  else if m1 = -1 then
    if m0 = 0 then s1 14 fl s else if m0 = 1 then s1 15 fl s
    else catT (List.replicate (m0 - 1).toNat s ++ [s1 15 fl s])
  else if m0 = 1 ∧ m1 = 1 then s
  else if m0 < m1 then
    if 0 < m0 then catT (List.replicate m0.toNat s ++ [sfx fl s (m1 - m0 - 1).toNat]) else sfx fl s (m1 - m0 - 1).toNat
  else if 0 < m0 then catT (List.replicate m0.toNat s) else noT
def hdT : List Tr → Tr
  | [] => emT
  | t :: _ => t
def simN (op fl : Int) (rs : List Int) (m0 m1 cp : Int) (nm : ByteArray) (ts : List Tr) : Tr :=
  if op = 14 ∨ op = 15 ∨ op = 16 then s1 op fl (hdT ts) else if op = 17 then repF fl m0 m1 (hdT ts) else nmN op fl rs m0 m1 cp nm ts
mutual
def simT : Tr → Tr
  | ⟨op, fl, rs, m0, m1, cp, nm, ts⟩ => simN op fl rs m0 m1 cp nm (simL ts)
def simL : List Tr → List Tr
  | [] => []
  | t :: ts => simT t :: simL ts
end
theorem simL_len : ∀ ts : List Tr, (simL ts).length = ts.length
  | [] => by rw [simL]
  | t :: ts => by rw [simL, List.length_cons, simL_len ts, List.length_cons]
theorem nmL_len : ∀ ts : List Tr, (nmL ts).length = ts.length
  | [] => by rw [nmL]
  | t :: ts => by rw [nmL, List.length_cons, nmL_len ts, List.length_cons]
theorem simN_nm (op fl : Int) (rs : List Int) (m0 m1 cp : Int) (nm : ByteArray) (ts : List Tr) :
    simN op fl (if op = 3 ∨ op = 4 then rs else []) (if op = 17 then m0 else 0) (if op = 17 then m1 else 0) (if op = 13 then cp else 0) (if op = 13 then nm else ByteArray.empty) ts = simN op fl rs m0 m1 cp nm ts := by
  unfold simN
  by_cases h1 : op = 14 ∨ op = 15 ∨ op = 16
  · rw [if_pos h1, if_pos h1]
  rw [if_neg h1, if_neg h1]
  by_cases h2 : op = 17
  · simp only [if_pos h2]
  rw [if_neg h2, if_neg h2]
  unfold nmN
  by_cases h3 : op = 3 ∨ op = 4
  · simp only [if_pos h3, if_neg h2]
    by_cases h4 : op = 13
    · simp only [if_pos h4]
    · simp only [if_neg h4]
  · simp only [if_neg h3, if_neg h2]
    by_cases h4 : op = 13
    · simp only [if_pos h4]
    · simp only [if_neg h4]
mutual
theorem sim_nm : ∀ t : Tr, simT (nmT t) = simT t
  | ⟨op, fl, rs, m0, m1, cp, nm, ts⟩ => by
    rw [nmT, nmN, simT, simT, simL_nm ts, simN_nm]
theorem simL_nm : ∀ ts : List Tr, simL (nmL ts) = simL ts
  | [] => by rw [nmL]
  | t :: ts => by rw [nmL, simL, simL, sim_nm t, simL_nm ts]
end
/-- A loop that stays one. -/
def loopF (op fl : Int) (ts : List Tr) : Prop := (op = 14 ∨ op = 15 ∨ op = 16) → ∃ s, ts = [s] ∧ s.f0 ≠ 2 ∧ ¬ (op = s.f0 ∧ ngF fl = ngF s.f1)
mutual
/-- A tree that Simplify leaves as it is. -/
def fxT : Tr → Prop
  | ⟨op, fl, rs, m0, m1, cp, nm, ts⟩ => fxL ts ∧ nmN op fl rs m0 m1 cp nm ts = ⟨op, fl, rs, m0, m1, cp, nm, ts⟩ ∧ op ≠ 17 ∧ loopF op fl ts
def fxL : List Tr → Prop
  | [] => True
  | t :: ts => fxT t ∧ fxL ts
end
mutual
theorem fx_same : ∀ t : Tr, fxT t → simT t = t
  | ⟨op, fl, rs, m0, m1, cp, nm, ts⟩, h => by
    rw [fxT] at h
    obtain ⟨h1, h2, h3, h4⟩ := h
    rw [simT, fxL_same ts h1]
    unfold simN
    by_cases h5 : op = 14 ∨ op = 15 ∨ op = 16
    · rw [if_pos h5]
      obtain ⟨s, rfl, h6, h7⟩ := h4 h5
      rw [hdT]
      unfold s1 unT
      rw [if_neg h6, if_neg h7, ← h2]
      unfold nmN
      simp only [if_neg (show ¬ (op = 3 ∨ op = 4) by omega), if_neg (show ¬ op = 17 by omega), if_neg (show ¬ op = 13 by omega)]
    · rw [if_neg h5, if_neg h3, h2]
theorem fxL_same : ∀ ts : List Tr, fxL ts → simL ts = ts
  | [], _ => by rw [simL]
  | t :: ts, h => by
    rw [fxL] at h
    rw [simL, fx_same t h.1, fxL_same ts h.2]
end
theorem fx_em : fxT emT := by
  unfold emT
  rw [fxT, fxL]
  exact ⟨trivial, by unfold nmN; simp, by decide, fun h => by omega⟩
theorem fx_no : fxT noT := by
  unfold noT
  rw [fxT, fxL]
  exact ⟨trivial, by unfold nmN; simp, by decide, fun h => by omega⟩
theorem fx_cat {ts : List Tr} (h : fxL ts) : fxT (catT ts) := by
  unfold catT
  rw [fxT]
  exact ⟨h, by unfold nmN; simp, by decide, fun h => by omega⟩
theorem fxL_app : ∀ {ts us : List Tr}, fxL ts → fxL us → fxL (ts ++ us)
  | [], us, _, h => h
  | t :: ts, us, h1, h => by
    rw [fxL] at h1
    rw [List.cons_append, fxL]
    exact ⟨h1.1, fxL_app h1.2 h⟩
theorem fxL_rep {t : Tr} (h : fxT t) : ∀ n, fxL (List.replicate n t)
  | 0 => by rw [List.replicate_zero, fxL]; trivial
  | n + 1 => by rw [List.replicate_succ, fxL]; exact ⟨h, fxL_rep h n⟩
theorem fxL_one {t : Tr} (h : fxT t) : fxL [t] := by rw [fxL, fxL]; exact ⟨h, trivial⟩
theorem fx_s1 {op fl : Int} {s : Tr} (ho : op = 14 ∨ op = 15 ∨ op = 16) (h : fxT s) : fxT (s1 op fl s) := by
  unfold s1
  by_cases h1 : s.f0 = 2
  · rw [if_pos h1]; exact h
  rw [if_neg h1]
  by_cases h2 : op = s.f0 ∧ ngF fl = ngF s.f1
  · rw [if_pos h2]; exact h
  rw [if_neg h2]
  unfold unT
  rw [fxT]
  refine ⟨fxL_one h, ?_, by omega, fun _ => ⟨s, rfl, h1, h2⟩⟩
  unfold nmN
  simp only [if_neg (show ¬ (op = 3 ∨ op = 4) by omega), if_neg (show ¬ op = 17 by omega), if_neg (show ¬ op = 13 by omega)]
theorem fx_sfx {fl : Int} {s : Tr} (h : fxT s) : ∀ k, fxT (sfx fl s k)
  | 0 => by rw [sfx]; exact fx_s1 (by omega) h
  | k + 1 => by
    rw [sfx]
    refine fx_s1 (by omega) (fx_cat ?_)
    rw [fxL]
    exact ⟨h, fxL_one (fx_sfx h k)⟩
theorem fx_rep {fl m0 m1 : Int} {s : Tr} (h : fxT s) : fxT (repF fl m0 m1 s) := by
  unfold repF
  repeat' split
  · exact fx_em
  · exact fx_s1 (by omega) h
  · exact fx_s1 (by omega) h
  · exact fx_cat (fxL_app (fxL_rep h _) (fxL_one (fx_s1 (by omega) h)))
  · exact h
  · exact fx_cat (fxL_app (fxL_rep h _) (fxL_one (fx_sfx h _)))
  · exact fx_sfx h _
  · exact fx_cat (fxL_rep h _)
  · exact fx_no
theorem fx_hd {ts : List Tr} (h : fxL ts) : fxT (hdT ts) := by
  cases ts with
  | nil => exact fx_em
  | cons t ts => rw [fxL] at h; exact h.1
mutual
theorem fx_sim : ∀ t : Tr, fxT (simT t)
  | ⟨op, fl, rs, m0, m1, cp, nm, ts⟩ => by
    have IH := fx_simL ts
    rw [simT]
    unfold simN
    by_cases h1 : op = 14 ∨ op = 15 ∨ op = 16
    · rw [if_pos h1]; exact fx_s1 h1 (fx_hd IH)
    rw [if_neg h1]
    by_cases h2 : op = 17
    · rw [if_pos h2]; exact fx_rep (fx_hd IH)
    rw [if_neg h2]
    unfold nmN
    rw [fxT]
    refine ⟨IH, ?_, h2, fun h => absurd h h1⟩
    unfold nmN
    congr 1
    all_goals
      split <;> rfl
theorem fx_simL : ∀ ts : List Tr, fxL (simL ts)
  | [] => by rw [simL, fxL]; trivial
  | t :: ts => by rw [simL, fxL]; exact ⟨fx_sim t, fx_simL ts⟩
end
/-- A second time changes nothing. -/
theorem sim_sim (t : Tr) : simT (simT t) = simT t := fx_same _ (fx_sim t)
end Go.Proofs.Ytholpemmakdglaa.PFnSySimplifyTwice
namespace Go.Proofs.Ytholpemmakdglaa.PFnSySimplifyTwice
open Go.RowKit Go.Proofs.YtholpemmakdglaaW.PrintWords Go.Proofs.YtholpemmakdglaaW.PrintLast Go.Proofs.YtholpemmakdglaaW.PrintMore
set_option linter.unusedVariables false
mutual
/-- All nodes are such as the thin package takes. -/
def snT : Tr → Prop
  | ⟨op, fl, rs, m0, m1, cp, nm, ts⟩ => sndF op rs m0 m1 cp ts.length = true ∧ snL ts
def snL : List Tr → Prop
  | [] => True
  | t :: ts => snT t ∧ snL ts
end
mutual
theorem sn_gd : ∀ (t : Tr) (h : Nat), gdT t h → snT t
  | ⟨op, fl, rs, m0, m1, cp, nm, ts⟩, h, g => by
    rw [gdT] at g
    rw [snT]
    exact ⟨g.2.1, snL_gd ts _ g.2.2.2.2⟩
theorem snL_gd : ∀ (ts : List Tr) (h : Nat), gdL ts h → snL ts
  | [], _, _ => by rw [snL]; trivial
  | t :: ts, h, g => by
    rw [gdL] at g
    rw [snL]
    exact ⟨sn_gd t h g.1, snL_gd ts h g.2⟩
end
/-- What a node's check tells. -/
theorem snd_facts {op : Int} {rs : List Int} {m0 m1 cp : Int} {sub : Nat} (h : sndF op rs m0 m1 cp sub = true) :
    1 ≤ op ∧ op ≤ 19 ∧ (op ≤ 12 → sub = 0) ∧ (13 ≤ op → op ≤ 17 → sub = 1) ∧ (op = 17 → 0 ≤ m0 ∧ m0 ≤ 1000 ∧ -1 ≤ m1 ∧ m1 ≤ 1000 ∧ (m1 < 0 ∨ m0 ≤ m1)) := by
  unfold sndF at h
  by_cases h1 : op = 1 ∨ op = 2 ∨ (5 ≤ op ∧ op ≤ 12)
  · rw [if_pos h1] at h
    have : sub = 0 := by simpa using h
    exact ⟨by omega, by omega, fun _ => this, fun _ _ => by omega, fun _ => by omega⟩
  rw [if_neg h1] at h
  by_cases h3 : op = 3
  · rw [if_pos h3] at h
    simp only [Bool.and_eq_true, beq_iff_eq] at h
    exact ⟨by omega, by omega, fun _ => by omega, fun _ _ => by omega, fun _ => by omega⟩
  rw [if_neg h3] at h
  by_cases h4 : op = 4
  · rw [if_pos h4] at h
    simp only [Bool.and_eq_true, beq_iff_eq] at h
    exact ⟨by omega, by omega, fun _ => by omega, fun _ _ => by omega, fun _ => by omega⟩
  rw [if_neg h4] at h
  by_cases h13 : op = 13
  · rw [if_pos h13] at h
    simp only [Bool.and_eq_true, beq_iff_eq, decide_eq_true_eq] at h
    exact ⟨by omega, by omega, fun _ => by omega, fun _ _ => by omega, fun _ => by omega⟩
  rw [if_neg h13] at h
  by_cases h14 : op = 14 ∨ op = 15 ∨ op = 16
  · rw [if_pos h14] at h
    simp only [beq_iff_eq] at h
    exact ⟨by omega, by omega, fun _ => by omega, fun _ _ => by omega, fun _ => by omega⟩
  rw [if_neg h14] at h
  by_cases h17 : op = 17
  · rw [if_pos h17] at h
    simp only [Bool.and_eq_true, Bool.or_eq_true, beq_iff_eq, decide_eq_true_eq] at h
    exact ⟨by omega, by omega, fun _ => by omega, fun _ _ => by omega, fun _ => by omega⟩
  rw [if_neg h17] at h
  by_cases h18 : op = 18
  · exact ⟨by omega, by omega, fun _ => by omega, fun _ _ => by omega, fun _ => by omega⟩
  rw [if_neg h18] at h
  by_cases h19 : op = 19
  · exact ⟨by omega, by omega, fun _ => by omega, fun _ _ => by omega, fun _ => by omega⟩
  rw [if_neg h19] at h
  cases h
theorem snd_un {op : Int} (ho : op = 14 ∨ op = 15 ∨ op = 16) : sndF op [] 0 0 0 1 = true := by
  rcases ho with rfl | rfl | rfl <;> decide
theorem snd_nm {op : Int} {rs : List Int} {m0 m1 cp : Int} {n : Nat} (h17 : op ≠ 17) (h : sndF op rs m0 m1 cp n = true) : sndF op (if op = 3 ∨ op = 4 then rs else []) (if op = 17 then m0 else 0) (if op = 17 then m1 else 0) (if op = 13 then cp else 0) n = true := by
  by_cases h3 : op = 3
  · subst h3
    have e : sndF 3 rs m0 m1 cp n = sndF 3 rs 0 0 0 n := rfl
    rw [e] at h
    exact h
  by_cases h4 : op = 4
  · subst h4
    have e : sndF 4 rs m0 m1 cp n = sndF 4 rs 0 0 0 n := rfl
    rw [e] at h
    exact h
  by_cases h13 : op = 13
  · subst h13
    have e : sndF 13 rs m0 m1 cp n = sndF 13 [] 0 0 cp n := rfl
    rw [e] at h
    exact h
  rw [if_neg (show ¬ (op = 3 ∨ op = 4) by omega), if_neg h17, if_neg h17, if_neg h13]
  unfold sndF at h ⊢
  simp only [if_neg h3, if_neg h4, if_neg h13, if_neg h17] at h ⊢
  exact h
theorem sn_s1 {op fl : Int} {s : Tr} (ho : op = 14 ∨ op = 15 ∨ op = 16) (h : snT s) : snT (s1 op fl s) := by
  unfold s1
  repeat' split
  · exact h
  · exact h
  · unfold unT; rw [snT, snL, snL]; exact ⟨snd_un ho, h, trivial⟩
theorem sn_cat {ts : List Tr} (h : snL ts) : snT (catT ts) := by
  unfold catT; rw [snT]; exact ⟨rfl, h⟩
theorem sn_sfx {fl : Int} {s : Tr} (h : snT s) : ∀ k, snT (sfx fl s k)
  | 0 => by rw [sfx]; exact sn_s1 (by omega) h
  | k + 1 => by
    rw [sfx]
    refine sn_s1 (by omega) (sn_cat ?_)
    rw [snL, snL, snL]
    exact ⟨h, sn_sfx h k, trivial⟩
theorem snL_app : ∀ {ts us : List Tr}, snL ts → snL us → snL (ts ++ us)
  | [], us, _, h => h
  | t :: ts, us, h1, h => by
    rw [snL] at h1
    rw [List.cons_append, snL]
    exact ⟨h1.1, snL_app h1.2 h⟩
theorem snL_rep {t : Tr} (h : snT t) : ∀ n, snL (List.replicate n t)
  | 0 => by rw [List.replicate_zero, snL]; trivial
  | n + 1 => by rw [List.replicate_succ, snL]; exact ⟨h, snL_rep h n⟩
theorem snL_one {t : Tr} (h : snT t) : snL [t] := by rw [snL, snL]; exact ⟨h, trivial⟩
theorem sn_em : snT emT := by unfold emT; rw [snT, snL]; exact ⟨by decide, trivial⟩
theorem sn_no : snT noT := by unfold noT; rw [snT, snL]; exact ⟨by decide, trivial⟩
theorem sn_rep {fl m0 m1 : Int} {s : Tr} (h : snT s) : snT (repF fl m0 m1 s) := by
  unfold repF
  repeat' split
  · exact sn_em
  · exact sn_s1 (by omega) h
  · exact sn_s1 (by omega) h
  · exact sn_cat (snL_app (snL_rep h _) (snL_one (sn_s1 (by omega) h)))
  · exact h
  · exact sn_cat (snL_app (snL_rep h _) (snL_one (sn_sfx h _)))
  · exact sn_sfx h _
  · exact sn_cat (snL_rep h _)
  · exact sn_no
theorem sn_hd {ts : List Tr} (h : snL ts) : snT (hdT ts) := by
  cases ts with
  | nil => exact sn_em
  | cons t ts => rw [snL] at h; exact h.1
mutual
theorem sn_sim : ∀ t : Tr, snT t → snT (simT t)
  | ⟨op, fl, rs, m0, m1, cp, nm, ts⟩, h => by
    rw [snT] at h
    have IH := snL_sim ts h.2
    rw [simT]
    unfold simN
    by_cases h1 : op = 14 ∨ op = 15 ∨ op = 16
    · rw [if_pos h1]; exact sn_s1 h1 (sn_hd IH)
    rw [if_neg h1]
    by_cases h2 : op = 17
    · rw [if_pos h2]; exact sn_rep (sn_hd IH)
    rw [if_neg h2]
    unfold nmN
    rw [snT]
    exact ⟨snd_nm h2 (by rw [simL_len]; exact h.1), IH⟩
theorem snL_sim : ∀ ts : List Tr, snL ts → snL (simL ts)
  | [], _ => by rw [simL, snL]; trivial
  | t :: ts, h => by rw [snL] at h; rw [simL, snL]; exact ⟨sn_sim t h.1, snL_sim ts h.2⟩
end
/-! How many nodes. -/
theorem nc_s1 (op fl : Int) (s : Tr) : ncT (s1 op fl s) ≤ ncT s + 1 := by
  unfold s1
  repeat' split
  · omega
  · omega
  · unfold unT; rw [ncT, ncL, ncL]; omega
theorem ncL_app : ∀ ts us : List Tr, ncL (ts ++ us) = ncL ts + ncL us
  | [], us => by rw [List.nil_append, ncL]; omega
  | t :: ts, us => by rw [List.cons_append, ncL, ncL, ncL_app ts us]; omega
theorem ncL_rep (t : Tr) : ∀ n, ncL (List.replicate n t) = n * ncT t
  | 0 => by rw [List.replicate_zero, ncL, Nat.zero_mul]
  | n + 1 => by rw [List.replicate_succ, ncL, ncL_rep t n, Nat.add_mul, Nat.one_mul]; omega
theorem nc_cat (ts : List Tr) : ncT (catT ts) = 1 + ncL ts := by unfold catT; rw [ncT]
theorem nc_sfx (fl : Int) (s : Tr) : ∀ k, ncT (sfx fl s k) ≤ (k + 1) * (ncT s + 2)
  | 0 => by rw [sfx]; have := nc_s1 16 fl s; omega
  | k + 1 => by
    rw [sfx]
    have h1 := nc_s1 16 fl (catT [s, sfx fl s k])
    rw [nc_cat, ncL, ncL, ncL] at h1
    have h2 := nc_sfx fl s k
    rw [Nat.add_mul (k + 1) 1, Nat.one_mul]
    omega
theorem wgL_add : ∀ (ts : List Tr) (a : Int), wgL ts a = a + wgL ts 0
  | [], a => by rw [wgL, wgL]; omega
  | t :: ts, a => by rw [wgL, wgL, wgL_add ts (a + wgT t), wgL_add ts (0 + wgT t)]; omega
theorem mulle {a n W : Nat} (h : n + 1 ≤ 2 * W) : a * n + a ≤ 2 * (a * W) := by
  have := Nat.mul_le_mul_left a h
  rw [Nat.mul_add, Nat.mul_left_comm] at this
  omega
theorem nc_rep {fl m0 m1 : Int} {s : Tr} {W : Nat} (hn : ncT s + 1 ≤ 2 * W) (h0 : 0 ≤ m0) (h1 : -1 ≤ m1) (h2 : m1 < 0 ∨ m0 ≤ m1) : ncT (repF fl m0 m1 s) + 1 ≤ 2 * ((1 + W) * (mx (mx m1 m0) 1).toNat) := by
  obtain ⟨M, hM⟩ : ∃ M, M = (mx (mx m1 m0) 1).toNat := ⟨_, rfl⟩
  have hM0 : 1 ≤ M ∧ (m1 ≤ M) ∧ (m0 ≤ M) ∧ (M = 1 ∨ (M : Int) = m1 ∨ (M : Int) = m0) := by
    rw [hM]; unfold mx
    repeat' split
    all_goals omega
  rw [← hM]
  clear hM
  have e : 2 * ((1 + W) * M) = 2 * M + 2 * (M * W) := by rw [Nat.add_mul, Nat.one_mul, Nat.mul_comm W M]; omega
  rw [e]
  have hW : W ≤ M * W := by have := Nat.mul_le_mul_right W hM0.1; omega
  unfold repF
  by_cases c1 : m0 = 0 ∧ m1 = 0
  · rw [if_pos c1]; unfold emT; rw [ncT, ncL]; omega
  rw [if_neg c1]
  have hs1 := fun op => nc_s1 op fl s
  by_cases c2 : m1 = -1
  · rw [if_pos c2]
    by_cases c3 : m0 = 0
    · rw [if_pos c3]; have := hs1 14; omega
    rw [if_neg c3]
    by_cases c4 : m0 = 1
    · rw [if_pos c4]; have := hs1 15; omega
    rw [if_neg c4, nc_cat, ncL_app, ncL_rep, ncL, ncL]
    have hm : M = (m0 - 1).toNat + 1 := by omega
    have h3 := hs1 15
    have h4 := mulle (a := (m0 - 1).toNat) hn
    have h5 : M * W = (m0 - 1).toNat * W + W := by rw [hm, Nat.add_mul, Nat.one_mul]
    omega
  rw [if_neg c2]
  by_cases c5 : m0 = 1 ∧ m1 = 1
  · rw [if_pos c5]; omega
  rw [if_neg c5]
  by_cases c6 : m0 < m1
  · rw [if_pos c6]
    have hk := nc_sfx fl s (m1 - m0 - 1).toNat
    have hd : (m1 - m0 - 1).toNat + 1 = (m1 - m0).toNat := by omega
    rw [hd] at hk
    have hm : M = m0.toNat + (m1 - m0).toNat := by omega
    have h5 : M * W = m0.toNat * W + (m1 - m0).toNat * W := by rw [hm, Nat.add_mul]
    have h4 := mulle (a := m0.toNat) hn
    have h6 := mulle (a := (m1 - m0).toNat) hn
    rw [Nat.mul_add] at hk
    by_cases c7 : 0 < m0
    · rw [if_pos c7, nc_cat, ncL_app, ncL_rep, ncL, ncL]
      omega
    · rw [if_neg c7]
      omega
  · rw [if_neg c6]
    by_cases c7 : 0 < m0
    · rw [if_pos c7, nc_cat, ncL_rep]
      have hm : M = m0.toNat := by omega
      have h4 := mulle (a := m0.toNat) hn
      rw [hm]
      omega
    · rw [if_neg c7]; unfold noT; rw [ncT, ncL]; omega
mutual
theorem nc_sim : ∀ t : Tr, snT t → ncT (simT t) + 1 ≤ 2 * (wgT t).toNat
  | ⟨op, fl, rs, m0, m1, cp, nm, ts⟩, h => by
    rw [snT] at h
    obtain ⟨f1, f2, f3, f4, f5⟩ := snd_facts h.1
    have IH := ncL_sim ts h.2
    have hf := facT_ge op m0 m1
    have hge := wgL_ge ts 0
    have e : (wgT ⟨op, fl, rs, m0, m1, cp, nm, ts⟩).toNat = (1 + (wgL ts 0).toNat) * (facT op m0 m1).toNat := by
      rw [wgT, wgL_add ts 1, Int.toNat_mul (by omega) (by omega)]
      congr 1
      omega
    rw [e, simT]
    unfold simN
    by_cases h1 : op = 14 ∨ op = 15 ∨ op = 16
    · rw [if_pos h1]
      have hl := f4 (by omega) (by omega)
      match ts, hl with
      | [t], _ =>
        rw [show facT op m0 m1 = 1 by unfold facT; rw [if_neg (by omega)]]
        rw [simL, simL, ncL, ncL] at IH
        rw [simL, hdT]
        have := nc_s1 op fl (simT t)
        simp only [Int.toNat_one, Nat.mul_one]
        have hp := ncT_pos (simT t)
        have hw := wgT_pos t
        have : wgL [t] 0 = wgT t := by rw [wgL, wgL]; omega
        rw [this] at IH ⊢
        omega
    rw [if_neg h1]
    by_cases h2 : op = 17
    · rw [if_pos h2]
      have hl := f4 (by omega) (by omega)
      match ts, hl with
      | [t], _ =>
        rw [show facT op m0 m1 = mx (mx m1 m0) 1 by unfold facT; rw [if_pos h2]]
        have IH1 := nc_sim t (by have := h.2; rw [snL] at this; exact this.1)
        rw [simL, hdT]
        have : wgL [t] 0 = wgT t := by rw [wgL, wgL]; omega
        rw [this]
        obtain ⟨g1, g2, g3, g4, g5⟩ := f5 h2
        exact nc_rep IH1 g1 g3 g5
    rw [if_neg h2]
    unfold nmN
    rw [ncT, show facT op m0 m1 = 1 by unfold facT; rw [if_neg h2]]
    simp only [Int.toNat_one, Nat.mul_one]
    omega
theorem ncL_sim : ∀ ts : List Tr, snL ts → ncL (simL ts) + ts.length ≤ 2 * (wgL ts 0).toNat
  | [], _ => by rw [simL, ncL]; simp
  | t :: ts, h => by
    rw [snL] at h
    rw [simL, ncL, wgL, wgL_add ts (0 + wgT t)]
    have h1 := nc_sim t h.1
    have h2 := ncL_sim ts h.2
    have h3 := wgT_pos t
    have h4 := wgL_ge ts 0
    have : (0 + wgT t + wgL ts 0).toNat = (wgT t).toNat + (wgL ts 0).toNat := by omega
    rw [this, List.length_cons]
    omega
end
/-- A tree without repeats, of few nodes, is one that the thin package takes. -/
def nrT (t : Tr) : Prop := fxT t
mutual
theorem wg_fx : ∀ t : Tr, fxT t → wgT t = ncT t
  | ⟨op, fl, rs, m0, m1, cp, nm, ts⟩, h => by
    rw [fxT] at h
    rw [wgT, ncT, show facT op m0 m1 = 1 by unfold facT; rw [if_neg h.2.2.1], Int.mul_one, wgL_add, wgL_fx ts h.1]
    omega
theorem wgL_fx : ∀ ts : List Tr, fxL ts → wgL ts 0 = ncL ts
  | [], _ => by rw [wgL, ncL]; rfl
  | t :: ts, h => by
    rw [fxL] at h
    rw [wgL, ncL, wgL_add, wg_fx t h.1, wgL_fx ts h.2]
    omega
end
mutual
theorem gd_fx : ∀ (t : Tr) (h : Nat), fxT t → snT t → h + ncT t ≤ 10001 → gdT t h
  | ⟨op, fl, rs, m0, m1, cp, nm, ts⟩, h, hf, hs, hh => by
    have hw := wg_fx _ hf
    rw [wgT] at hw
    rw [fxT] at hf
    rw [snT] at hs
    rw [gdT, hw]
    obtain ⟨f1, f2, f3, f4, f5⟩ := snd_facts hs.1
    have hp := ncT_pos ⟨op, fl, rs, m0, m1, cp, nm, ts⟩
    refine ⟨by omega, hs.1, fun h17 => by have := f5 h17; omega, by omega, gdL_fx ts (h + 1) hf.1 hs.2 ?_⟩
    rw [ncT] at hh
    omega
theorem gdL_fx : ∀ (ts : List Tr) (h : Nat), fxL ts → snL ts → h + ncL ts ≤ 10001 → gdL ts h
  | [], _, _, _, _ => by rw [gdL]; trivial
  | t :: ts, h, hf, hs, hh => by
    rw [fxL] at hf
    rw [snL] at hs
    rw [ncL] at hh
    rw [gdL]
    exact ⟨gd_fx t h hf.1 hs.1 (by omega), gdL_fx ts h hf.2 hs.2 (by omega)⟩
end
mutual
theorem nc_nm : ∀ t : Tr, ncT (nmT t) = ncT t
  | ⟨op, fl, rs, m0, m1, cp, nm, ts⟩ => by rw [nmT, nmN, ncT, ncT, ncL_nm ts]
theorem ncL_nm : ∀ ts : List Tr, ncL (nmL ts) = ncL ts
  | [] => by rw [nmL]
  | t :: ts => by rw [nmL, ncL, ncL, nc_nm t, ncL_nm ts]
end
theorem snd_of_nm {op : Int} {rs : List Int} {m0 m1 cp : Int} {n : Nat} : sndF op (if op = 3 ∨ op = 4 then rs else []) (if op = 17 then m0 else 0) (if op = 17 then m1 else 0) (if op = 13 then cp else 0) n = sndF op rs m0 m1 cp n := by
  by_cases h17 : op = 17
  · subst h17; rfl
  by_cases h3 : op = 3
  · subst h3; rfl
  by_cases h4 : op = 4
  · subst h4; rfl
  by_cases h13 : op = 13
  · subst h13; rfl
  rw [if_neg (show ¬ (op = 3 ∨ op = 4) by omega), if_neg h17, if_neg h17, if_neg h13]
  unfold sndF
  simp only [if_neg h3, if_neg h4, if_neg h13, if_neg h17]
theorem fac_of_nm {op m0 m1 : Int} : facT op (if op = 17 then m0 else 0) (if op = 17 then m1 else 0) = facT op m0 m1 := by
  by_cases h17 : op = 17
  · subst h17; rfl
  · unfold facT; rw [if_neg h17, if_neg h17]
mutual
theorem wg_nm : ∀ t : Tr, wgT (nmT t) = wgT t
  | ⟨op, fl, rs, m0, m1, cp, nm, ts⟩ => by rw [nmT, nmN, wgT, wgT, wgL_nm ts, fac_of_nm]
theorem wgL_nm : ∀ (ts : List Tr) (a : Int), wgL (nmL ts) a = wgL ts a
  | [], a => by rw [nmL]
  | t :: ts, a => by rw [nmL, wgL, wgL, wg_nm t, wgL_nm ts]
end
mutual
theorem gd_nm : ∀ (t : Tr) (h : Nat), gdT (nmT t) h → gdT t h
  | ⟨op, fl, rs, m0, m1, cp, nm, ts⟩, h, g => by
    rw [nmT, nmN, gdT, snd_of_nm, fac_of_nm, wgL_nm, nmL_len] at g
    rw [gdT]
    obtain ⟨g1, g2, g3, g4, g5⟩ := g
    exact ⟨g1, g2, fun h17 => by have := g3 h17; rw [if_pos h17, if_pos h17] at this; exact this, g4, gdL_nm ts _ g5⟩
theorem gdL_nm : ∀ (ts : List Tr) (h : Nat), gdL (nmL ts) h → gdL ts h
  | [], _, _ => by rw [gdL]; trivial
  | t :: ts, h, g => by
    rw [nmL, gdL] at g
    rw [gdL]
    exact ⟨gd_nm t h g.1, gdL_nm ts h g.2⟩
end
/-- What Simplify gives is a tree that the thin package takes. -/
theorem good_sim {t s : Tr} (hs : snT t) (hw : wgT t ≤ 2000) (h : nmT s = simT t) : gdT s 1 ∧ ncT s ≤ 4000 := by
  have h1 := nc_sim t hs
  have hp := wgT_pos t
  have h2 : ncT s = ncT (simT t) := by rw [← h, nc_nm]
  refine ⟨gd_nm s 1 ?_, by omega⟩
  rw [h]
  exact gd_fx _ 1 (fx_sim t) (sn_sim t hs) (by omega)
end Go.Proofs.Ytholpemmakdglaa.PFnSySimplifyTwice
namespace Go.Proofs.Ytholpemmakdglaa.PFnSySimplifyTwice
open Go.RowKit Go.Proofs.YtholpemmakdglaaW.PrintWords Go.Proofs.YtholpemmakdglaaW.PrintLast Go.Proofs.YtholpemmakdglaaW.PrintMore
set_option linter.unusedVariables false
set_option linter.unusedSimpArgs false
theorem runes_ev : ∀ (l xs : List Int) (i : Nat), xs.drop i = l → Fits xs.length → Ev (fun k => spec_syRunes.l0 k xs xs xs.length i) true
  | [], xs, i, hd, hx => by
    have hge : ¬ ((i : Int) < (xs.length : Int)) := by have := List.drop_eq_nil_iff.1 hd; omega
    exact Ev.step (f := fun _ => some true) (fun k => by simp only [spec_syRunes.l0, if_neg hge]) (Ev.now _)
  | a :: l, xs, i, hd, hx => by
    obtain ⟨h1, ha, hd1⟩ := rd_i hd
    have g1 : (i : Int) < (xs.length : Int) := by omega
    have g0 : (0 : Int) ≤ (i : Int) := by omega
    exact Ev.step (f := fun k => spec_syRunes.l0 k xs xs xs.length ((i + 1 : Nat) : Int)) (fun k => by simp only [spec_syRunes.l0, if_pos g1, if_pos g0, wrap_i h1 hx, if_true]) (runes_ev l xs (i + 1) hd1 hx)
/-- What two nodes that are alike have in common. -/
theorem nm_inj {op fl : Int} {rs : List Int} {m0 m1 cp : Int} {nm : ByteArray} {ts : List Tr} {op' fl' : Int} {rs' : List Int} {m0' m1' cp' : Int} {nm' : ByteArray} {ts' : List Tr}
    (h : nmT ⟨op, fl, rs, m0, m1, cp, nm, ts⟩ = nmT ⟨op', fl', rs', m0', m1', cp', nm', ts'⟩) :
    op' = op ∧ fl' = fl ∧ (op = 3 ∨ op = 4 → rs' = rs) ∧ (op = 17 → m0' = m0 ∧ m1' = m1) ∧ (op = 13 → cp' = cp ∧ nm' = nm) ∧ nmL ts = nmL ts' := by
  rw [nmT, nmT, nmN, nmN] at h
  injection h with h0 h1 h2 h3 h4 h5 h6 h7
  subst h0 h1
  refine ⟨rfl, rfl, fun h => ?_, fun h => ?_, fun h => ?_, h7⟩
  · rw [if_pos h, if_pos h] at h2; exact h2.symm
  · rw [if_pos h, if_pos h] at h3 h4; exact ⟨h3.symm, h4.symm⟩
  · rw [if_pos h, if_pos h] at h5 h6; exact ⟨h5.symm, h6.symm⟩
theorem nmL_cons {t : Tr} {ts us : List Tr} (h : nmL (t :: ts) = nmL us) : ∃ u us', us = u :: us' ∧ nmT t = nmT u ∧ nmL ts = nmL us' := by
  cases us with
  | nil => rw [nmL, nmL] at h; cases h
  | cons u us' => rw [nmL, nmL] at h; injection h with h1 h2; exact ⟨u, us', rfl, h1, h2⟩
mutual
theorem same_ev : ∀ (t u : Tr), nmT t = nmT u → wfT t → Ev (fun k => spec_SySame.f k t.f0 t.f1 t.f2 t.f3 t.f4 t.f5 t.f6 t.f7 u.f0 u.f1 u.f2 u.f3 u.f4 u.f5 u.f6 u.f7) true
  | ⟨op, fl, rs, m0, m1, cp, nm, ts⟩, ⟨op', fl', rs', m0', m1', cp', nm', ts'⟩, h, hw => by
    obtain ⟨rfl, rfl, hrs, hm, hc, hts⟩ := nm_inj h
    rw [wfT] at hw
    have hlen : ts'.length = ts.length := by have := congrArg List.length hts; rw [nmL_len, nmL_len] at this; omega
    have j3 : Ev (fun k => spec_SySame.j3 k true op' fl' rs m0 m1 cp nm ts op' fl' rs' m0' m1' cp' nm' ts') true :=
      Ev.step (f := fun k => spec_SySame.l0 k true 0 op' fl' rs m0 m1 cp nm ts op' fl' rs' m0' m1' cp' nm' ts') (fun k => by rw [spec_SySame.j3]) (sameL_ev op' fl' rs m0 m1 cp nm op' fl' rs' m0' m1' cp' nm' ts ts' ts ts' 0 rfl rfl hts hlen hw.2.1 hw.2.2)
    have j2 : ∀ b, Ev (fun k => spec_SySame.j2 k true op' b op' fl' rs m0 m1 cp nm ts op' fl' rs' m0' m1' cp' nm' ts') true := fun b => by
      refine Ev.step (f := fun k => spec_SySame.j3 k true op' fl' rs m0 m1 cp nm ts op' fl' rs' m0' m1' cp' nm' ts') (fun k => ?_) j3
      rw [spec_SySame.j2]
      by_cases hb : b = true
      · simp only [if_pos hb, spec_syBits.f, Option.bind_some, beq_self_eq_true]
      rw [if_neg hb]
      by_cases h17 : op' = 17
      · obtain ⟨e1, e2⟩ := hm h17
        simp only [if_pos h17, spec_syBits.f, Option.bind_some, beq_self_eq_true, e1, e2, if_true]
      rw [if_neg h17]
      by_cases h13 : op' = 13
      · obtain ⟨e1, e2⟩ := hc h13
        simp only [if_pos h13, e1, e2, if_true, beq_self_eq_true]
      rw [if_neg h13]
    have j1 : ∀ b, (b = true → op' = 3 ∨ op' = 4) → Ev (fun k => spec_SySame.j1 k true op' b op' fl' rs m0 m1 cp nm ts op' fl' rs' m0' m1' cp' nm' ts') true := fun b hb => by
      by_cases h1 : b = true
      · have e := hrs (hb h1)
        subst e
        refine Ev.step (f := fun k => (spec_syRunes.f k rs' rs').bind fun t150 => spec_SySame.j3 k t150 op' fl' rs' m0 m1 cp nm ts op' fl' rs' m0' m1' cp' nm' ts') (fun k => ?_) (Ev.bind (f := fun k t150 => spec_SySame.j3 k t150 op' fl' rs' m0 m1 cp nm ts op' fl' rs' m0' m1' cp' nm' ts') (a := true) ?_ j3)
        · rw [spec_SySame.j1]
          simp only [if_pos h1, spec_syBits.f, Option.bind_some, beq_self_eq_true, if_true]
        · exact Ev.congr (f := fun k => spec_syRunes.l0 k rs' rs' rs'.length ((0 : Nat) : Int)) (fun k => by rw [spec_syRunes.f, if_pos rfl]; rfl) (runes_ev rs' rs' 0 rfl hw.1)
      · have key : ∀ k, spec_SySame.j1 (k + 1) true op' b op' fl' rs m0 m1 cp nm ts op' fl' rs' m0' m1' cp' nm' ts' = spec_SySame.j2 k true op' (if op' = 14 then op' == 14 else if op' = 15 then op' == 15 else op' == 16) op' fl' rs m0 m1 cp nm ts op' fl' rs' m0' m1' cp' nm' ts' := fun k => by
          rw [spec_SySame.j1, if_neg h1]
          by_cases h14 : op' = 14
          · simp only [if_pos h14]
          simp only [if_neg h14]
          by_cases h15 : op' = 15
          · simp only [if_pos h15]
          simp only [if_neg h15]
        exact Ev.step key (j2 _)
    have j0 : ∀ b, b = false → Ev (fun k => spec_SySame.j0 k b op' fl' rs m0 m1 cp nm ts op' fl' rs' m0' m1' cp' nm' ts') true := fun b hb => by
      subst hb
      by_cases h10 : op' = 10
      · refine Ev.step (f := fun k => spec_SySame.j3 k true op' fl' rs m0 m1 cp nm ts op' fl' rs' m0' m1' cp' nm' ts') (fun k => ?_) j3
        rw [spec_SySame.j0]
        simp only [if_neg Bool.false_ne_true, if_pos h10, spec_syBits.f, Option.bind_some, beq_self_eq_true]
      by_cases h3 : op' = 3
      · refine Ev.step (f := fun k => spec_SySame.j1 k true op' (op' == 3) op' fl' rs m0 m1 cp nm ts op' fl' rs' m0' m1' cp' nm' ts') (fun k => ?_) (j1 _ (fun h => .inl (by simpa using h)))
        rw [spec_SySame.j0]
        simp only [if_neg Bool.false_ne_true, if_neg h10, if_pos h3]
      · refine Ev.step (f := fun k => spec_SySame.j1 k true op' (op' == 4) op' fl' rs m0 m1 cp nm ts op' fl' rs' m0' m1' cp' nm' ts') (fun k => ?_) (j1 _ (fun h => .inr (by simpa using h)))
        rw [spec_SySame.j0]
        simp only [if_neg Bool.false_ne_true, if_neg h10, if_neg h3]
    refine Ev.step (f := fun k => spec_SySame.j0 k ((ts.length : Int) != (ts'.length : Int)) op' fl' rs m0 m1 cp nm ts op' fl' rs' m0' m1' cp' nm' ts') (fun k => ?_) (j0 _ (by rw [hlen]; simp))
    rw [spec_SySame.f, if_pos rfl]
theorem sameL_ev (op fl : Int) (rs : List Int) (m0 m1 cp : Int) (nm : ByteArray) (op' fl' : Int) (rs' : List Int) (m0' m1' cp' : Int) (nm' : ByteArray) : ∀ (ts us xs ys : List Tr) (i : Nat), xs.drop i = ts → ys.drop i = us → nmL ts = nmL us → ys.length = xs.length → Fits xs.length → wfL ts →
    Ev (fun k => spec_SySame.l0 k true i op fl rs m0 m1 cp nm xs op' fl' rs' m0' m1' cp' nm' ys) true
  | [], us, xs, ys, i, hd, hd', hn, hl, hx, hw => by
    have hge : ¬ ((i : Int) < (xs.length : Int)) := by have := List.drop_eq_nil_iff.1 hd; omega
    exact Ev.step (f := fun _ => some true) (fun k => by simp only [spec_SySame.l0, if_true, if_neg hge]) (Ev.now _)
  | t :: ts, us, xs, ys, i, hd, hd', hn, hl, hx, hw => by
    rw [wfL] at hw
    obtain ⟨u, us', rfl, h1, h2⟩ := nmL_cons hn
    obtain ⟨hlt, hrd, hd1⟩ := rd_at hd
    obtain ⟨hlt', hrd', hd1'⟩ := rd_at hd'
    have g1 : (i : Int) < (xs.length : Int) := by omega
    have g2 : (i : Int) < (ys.length : Int) := by omega
    have g0 : (0 : Int) ≤ (i : Int) := by omega
    refine Ev.step (f := fun k => (spec_SySame.f k t.f0 t.f1 t.f2 t.f3 t.f4 t.f5 t.f6 t.f7 u.f0 u.f1 u.f2 u.f3 u.f4 u.f5 u.f6 u.f7).bind fun r => spec_SySame.l0 k r ((i + 1 : Nat) : Int) op fl rs m0 m1 cp nm xs op' fl' rs' m0' m1' cp' nm' ys) (fun k => by simp only [spec_SySame.l0, if_true, if_pos g1, if_pos g0, if_pos g2, hrd, hrd', wrap_i hlt hx]) ?_
    exact Ev.bind (f := fun k r => spec_SySame.l0 k r ((i + 1 : Nat) : Int) op fl rs m0 m1 cp nm xs op' fl' rs' m0' m1' cp' nm' ys) (same_ev t u h1 hw.1) (sameL_ev op fl rs m0 m1 cp nm op' fl' rs' m0' m1' cp' nm' ts us' xs ys (i + 1) hd1 hd1' h2 hl hx hw.2)
end
end Go.Proofs.Ytholpemmakdglaa.PFnSySimplifyTwice
