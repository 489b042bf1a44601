/- The reference's least length of a tree. The reference's least length of a tree: the other nodes, and whole. -/
import Derived.Test.YtholpemmakdglaaDoorACFnMtLeastLen
import Derived.Test.YtholpemmakdglaaDoorADFnMtLeastLen
import Derived.Test.YtholpemmakdglaaDoorAA
import Derived.Deep.DeepCutAuto
import Derived.Deep.CutBlock
import Derived.Deep.LoopGhost
namespace Go.Proofs.YtholpemmakdglaaDoor.PFnMtLeastLen
open Go.RowKit Go.Proofs.YtholpemmakdglaaDoorW.PrintWords Go.Proofs.YtholpemmakdglaaDoorW.PrintLast Go.Proofs.YtholpemmakdglaaDoorW.PrintMore
set_option linter.unusedVariables false
set_option linter.unusedSimpArgs false
theorem add_blk (a : Addr) (i : Nat) : (a.add i).block = a.block := by
  obtain ⟨b, o, sp⟩ := a
  unfold Addr.add
  first
    | rfl
    | (split <;> rfl)
theorem enc_size {c : Int} (h : chOk c) (h1 : c ≠ 65533) : ((Utf8.encode c).size : Int) = widF c := by
  obtain ⟨a0, a1, a2⟩ := h
  have hv : Utf8.valid c = true := by unfold Utf8.valid; simp; omega
  unfold Utf8.encode widF
  rw [if_neg h1]
  simp only [hv, if_true]
  by_cases h2 : c ≤ 127
  · rw [if_pos (show c.toNat < 128 by omega), if_pos h2]; rfl
  rw [if_neg (show ¬ c.toNat < 128 by omega), if_neg h2]
  by_cases h3 : c ≤ 2047
  · rw [if_pos (show c.toNat < 2048 by omega), if_pos h3]; rfl
  rw [if_neg (show ¬ c.toNat < 2048 by omega), if_neg h3]
  by_cases h4 : c ≤ 65535
  · rw [if_pos (show c.toNat < 65536 by omega), if_pos h4]; rfl
  rw [if_neg (show ¬ c.toNat < 65536 by omega), if_neg h4]; rfl
set_option maxRecDepth 100000 in
set_option maxHeartbeats 1000000 in
theorem reWidth_c (c : Int) (w : World) (h : chOk c) : Calls Tryd.prog 40 #[.int .i32 c] w fun e w' => e = .returned (.int .i64 (widF c)) ∧ w = w' := by
  obtain ⟨a0, a1, a2⟩ := h
  by_cases h53 : c = 65533
  · have hb : (c == 65533) = true := by simpa using h53
    have hw : widF c = 1 := by unfold widF; rw [if_pos h53]
    rw [hw]
    clear h53 hw
    go_enter Tryd.func40, Tryd.ntmps40
    go_wp2_with fail
    go_ret
    exact ⟨rfl, rfl⟩
  · have hb : (c == 65533) = false := by simpa using h53
    go_enter Tryd.func40, Tryd.ntmps40
    have he := Lib.hid (enc_size ⟨a0, a1, a2⟩ h53)
    go_wp2_with fail
    go_ret
    exact ⟨by rw [← he.out]; rfl, rfl⟩
set_option maxRecDepth 100000 in
set_option maxHeartbeats 4000000 in
theorem rll_lit (fl : Int) (rs : List Int) (m0 m1 cp : Int) (nm : ByteArray) (ts : List Tr) (A2 : Option Addr) (c2 : Nat) (A7 : Option Addr) (c7 : Nat) (w : World) (h2 : (Kd.int .i32).C w A2 rs.length rs) (hc2 : rs.length ≤ c2) (h7 : k40.C w A7 ts.length ts) (hc7 : ts.length ≤ c7) (hu : usT ⟨3, fl, rs, m0, m1, cp, nm, ts⟩) :
    Calls Tryd.prog 20 #[.agg #[.int .i64 3, .int .i64 fl, .slice A2 rs.length c2, .int .i64 m0, .int .i64 m1, .int .i64 cp, .string nm, .slice A7 ts.length c7]] w fun e w' => e = .returned (.int .i64 (llT ⟨3, fl, rs, m0, m1, cp, nm, ts⟩)) ∧ Below w.heap.size w w' := by
  have hb1 : Below w.heap.size w (w.alloc (.cells #[.int .i64 3, .int .i64 fl, .slice A2 rs.length c2, .int .i64 m0, .int .i64 m1, .int .i64 cp, .string nm, .slice A7 ts.length c7] 40)) := (Below.refl _ _).alloc (Nat.le_refl _) _
  have hcells := blk_all w #[.int .i64 3, .int .i64 fl, .slice A2 rs.length c2, .int .i64 m0, .int .i64 m1, .int .i64 cp, .string nm, .slice A7 ts.length c7] 40 rfl
  have d0 := hcells 0 _ rfl
  have d2 := hcells 2 _ rfl
  have d3 := hcells 3 _ rfl
  have d7 := hcells 7 _ rfl
  have HB1 := Lib.hid hb1
  have H2 := Lib.hid h2
  have H7 := Lib.hid h7
  rw [usT] at hu
  clear hb1 hcells h2 h7
  rw [llT, if_pos rfl]
  have HU := Lib.hid (hu.1 rfl)
  have hl9 : rs.length ≤ 9223372036854775807 := H2.out.2.1
  clear hu
  go_enter Tryd.func20, Tryd.ntmps20
  go_upto_region 2 with fail
  generalize w.alloc (.cells #[.int .i64 3, .int .i64 fl, .slice A2 rs.length c2, .int .i64 m0, .int .i64 m1, .int .i64 cp, .string nm, .slice A7 ts.length c7] 40) = W1 at *
  generalize hT0 : w.heap.size = T0 at *
  go_wp2_with fail
  go_loopg [3, 17] (rs.length + 1) (fun g s3 s17 wx => ∃ (i : Nat) (a : Int), s3 = .int .i64 a ∧ s17 = .int .i64 i ∧ i ≤ rs.length ∧ widL (rs.drop i) a = widL rs 0 ∧ wx = W1 ∧ rs.length - i < g)
  case atStart => exact ⟨0, 0, rfl, rfl, by omega, rfl, rfl, by omega⟩
  case round =>
    obtain ⟨i, a, rfl, rfl, hi, hwd, rfl, hg⟩ := hrel
    have HW := Lib.hid hwd
    clear hwd
    obtain ⟨g', rfl⟩ : ∃ g', gk = g' + 1 := ⟨gk - 1, by omega⟩
    by_cases hlt : i < rs.length
    · obtain ⟨c, l, hd⟩ : ∃ c l, rs.drop i = c :: l := by
        cases hdr : rs.drop i with
        | nil => have := List.drop_eq_nil_iff.1 hdr; omega
        | cons t ts' => exact ⟨t, ts', rfl⟩
      have hci : rs[i]? = some c := by
        have := congrArg List.head? hd
        rw [List.head?_drop] at this
        simpa using this
      have hok := HU.out c (List.mem_of_getElem? hci)
      obtain ⟨ad, rfl, hcc⟩ := H2.out.2.2 (by omega)
      have hq : w.cell? (ad.add i) = some (.int .i32 c) := by
        obtain ⟨cs, _, hK, hcell⟩ := hcc i c hci
        have h1 := hcell 0 (.int .i32 c) (by rw [show cs = [.int .i32 c] from hK]; rfl)
        rwa [show (Kd.int .i32).sz = 1 from rfl, Nat.mul_one, Nat.add_zero] at h1
      have hbk : ad.block < T0 := by
        have := World.block_lt_of_cell? w _ hq
        rw [← hT0]
        rwa [add_blk] at this
      have hq' : wr.cell? (ad.add i) = some (.int .i32 c) := (HB1.out.cell (p := ad.add i) (by rw [add_blk]; exact hbk)).trans hq
      have hd1 : rs.drop (i + 1) = l := by
        have h1 := List.drop_eq_getElem_cons hlt
        rw [hd] at h1
        injection h1 with _ h2
        exact h2.symm
      have hw := HW.out
      rw [hd, widL] at hw
      have HD1 := Lib.hid hd1
      have HW2 := Lib.hid hw
      have CW := Lib.hid (fun w1 => reWidth_c c w1 hok)
      clear hd hci hok hcc hq hbk hd1 hw HW
      generalize widF c = wf at *
      go_wp2_with (go_at_call 40; refine (CW.out _).mono ?_; rintro e w1 ⟨rfl, rfl⟩)
      go_roundg g'
      case rel => exact ⟨i + 1, _, rfl, by go_num, by omega, by rw [HD1.out]; exact HW2.out, rfl, by omega⟩
      case measure => omega
    · obtain rfl : i = rs.length := by omega
      have hw := HW.out
      rw [List.drop_length, widL] at hw
      have HW2 := Lib.hid hw
      clear hw HW
      go_wp2
      go_ret
      exact ⟨by rw [HW2.out]; rfl, by rw [hT0]; exact HB1.out⟩
end Go.Proofs.YtholpemmakdglaaDoor.PFnMtLeastLen
namespace Go.Proofs.YtholpemmakdglaaDoor.PFnMtLeastLen
open Go.RowKit Go.Proofs.YtholpemmakdglaaDoorW.PrintWords Go.Proofs.YtholpemmakdglaaDoorW.PrintLast Go.Proofs.YtholpemmakdglaaDoorW.PrintMore
set_option linter.unusedVariables false
set_option linter.unusedSimpArgs false
/-- The reference's least length is known at all smaller trees. -/
def RllI (N : Nat) : Prop := ∀ (t : Tr) (A2 : Option Addr) (c2 : Nat) (A7 : Option Addr) (c7 : Nat) (w : World), ncT t ≤ N → (Kd.int .i32).C w A2 t.f2.length t.f2 → t.f2.length ≤ c2 → k40.C w A7 t.f7.length t.f7 → t.f7.length ≤ c7 → usT t → snT t →
  Calls Tryd.prog 20 #[.agg #[.int .i64 t.f0, .int .i64 t.f1, .slice A2 t.f2.length c2, .int .i64 t.f3, .int .i64 t.f4, .int .i64 t.f5, .string t.f6, .slice A7 t.f7.length c7]] w fun e w' => e = .returned (.int .i64 (llT t)) ∧ Below w.heap.size w w'
set_option maxRecDepth 100000 in
set_option maxHeartbeats 4000000 in
theorem rll_flat (op fl : Int) (rs : List Int) (m0 m1 cp : Int) (nm : ByteArray) (ts : List Tr) (A2 : Option Addr) (c2 : Nat) (A7 : Option Addr) (c7 : Nat) (w : World) (h7 : k40.C w A7 ts.length (ts)) (hc7 : ts.length ≤ c7) (ho : op ≠ 3 ∧ op ≠ 13 ∧ op ≠ 15 ∧ op ≠ 17 ∧ op ≠ 18 ∧ op ≠ 19) :
    Calls Tryd.prog 20 #[.agg #[.int .i64 op, .int .i64 fl, .slice A2 rs.length c2, .int .i64 m0, .int .i64 m1, .int .i64 cp, .string nm, .slice A7 ts.length c7]] w fun e w' => e = .returned (.int .i64 (llT ⟨op, fl, rs, m0, m1, cp, nm, ts⟩)) ∧ Below w.heap.size w w' := by
  have hb1 : Below w.heap.size w (w.alloc (.cells #[.int .i64 op, .int .i64 fl, .slice A2 rs.length c2, .int .i64 m0, .int .i64 m1, .int .i64 cp, .string nm, .slice A7 ts.length c7] 40)) := (Below.refl _ _).alloc (Nat.le_refl _) _
  have hcells := blk_all w #[.int .i64 op, .int .i64 fl, .slice A2 rs.length c2, .int .i64 m0, .int .i64 m1, .int .i64 cp, .string nm, .slice A7 ts.length c7] 40 rfl
  have d0 := hcells 0 _ rfl
  have d3 := hcells 3 _ rfl
  have d7 := hcells 7 _ rfl
  have HB1 := Lib.hid hb1
  have H7 := Lib.hid h7
  clear hb1 hcells h7
  rw [llT, if_neg ho.1]
  have t3 : (op == 3) = false := by simpa using ho.1
  have t13 : (op == 13) = false := by simpa using ho.2.1
  have t15 : (op == 15) = false := by simpa using ho.2.2.1
  have t17 : (op == 17) = false := by simpa using ho.2.2.2.1
  have t18 : (op == 18) = false := by simpa using ho.2.2.2.2.1
  have t19 : (op == 19) = false := by simpa using ho.2.2.2.2.2
  by_cases h4 : op = 4
  · have t4 : (op == 4) = true := by simpa using h4
    rw [if_pos (by omega)]
    clear ho h4 
    go_enter Tryd.func20, Tryd.ntmps20
    go_upto_region 2 with fail
    generalize w.alloc (.cells #[.int .i64 op, .int .i64 fl, .slice A2 rs.length c2, .int .i64 m0, .int .i64 m1, .int .i64 cp, .string nm, .slice A7 ts.length c7] 40) = W1 at *
    generalize hT0 : w.heap.size = T0 at *
    go_wp2_with fail
    go_ret
    exact ⟨rfl, by rw [hT0]; exact HB1.out⟩
  have t4 : (op == 4) = false := by simpa using h4
  by_cases h5 : op = 5
  · have t5 : (op == 5) = true := by simpa using h5
    rw [if_pos (by omega)]
    clear ho h5 h4
    go_enter Tryd.func20, Tryd.ntmps20
    go_upto_region 2 with fail
    generalize w.alloc (.cells #[.int .i64 op, .int .i64 fl, .slice A2 rs.length c2, .int .i64 m0, .int .i64 m1, .int .i64 cp, .string nm, .slice A7 ts.length c7] 40) = W1 at *
    generalize hT0 : w.heap.size = T0 at *
    go_wp2_with fail
    go_ret
    exact ⟨rfl, by rw [hT0]; exact HB1.out⟩
  have t5 : (op == 5) = false := by simpa using h5
  by_cases h6 : op = 6
  · have t6 : (op == 6) = true := by simpa using h6
    rw [if_pos (by omega)]
    clear ho h6 h4 h5
    go_enter Tryd.func20, Tryd.ntmps20
    go_upto_region 2 with fail
    generalize w.alloc (.cells #[.int .i64 op, .int .i64 fl, .slice A2 rs.length c2, .int .i64 m0, .int .i64 m1, .int .i64 cp, .string nm, .slice A7 ts.length c7] 40) = W1 at *
    generalize hT0 : w.heap.size = T0 at *
    go_wp2_with fail
    go_ret
    exact ⟨rfl, by rw [hT0]; exact HB1.out⟩
  have t6 : (op == 6) = false := by simpa using h6
  rw [if_neg (by omega), if_neg (by omega), if_neg ho.2.2.2.1, if_neg ho.2.2.2.2.1, if_neg ho.2.2.2.2.2]
  clear ho h4 h5 h6
  go_enter Tryd.func20, Tryd.ntmps20
  go_upto_region 2 with fail
  generalize w.alloc (.cells #[.int .i64 op, .int .i64 fl, .slice A2 rs.length c2, .int .i64 m0, .int .i64 m1, .int .i64 cp, .string nm, .slice A7 ts.length c7] 40) = W1 at *
  generalize hT0 : w.heap.size = T0 at *
  go_wp2_with fail
  go_ret
  exact ⟨rfl, by rw [hT0]; exact HB1.out⟩
set_option maxRecDepth 100000 in
set_option maxHeartbeats 4000000 in
theorem rll_hd (N : Nat) (IH : Hid (RllI N)) (op fl : Int) (rs : List Int) (m0 m1 cp : Int) (nm : ByteArray) (x : Tr) (A2 : Option Addr) (c2 : Nat) (A7 : Option Addr) (c7 : Nat) (w : World) (h7 : k40.C w A7 1 ([x])) (hc7 : 1 ≤ c7) (ho : op = 13 ∨ op = 15) (hN : ncT x ≤ N) (hu : usT x) (hs : snT x) :
    Calls Tryd.prog 20 #[.agg #[.int .i64 op, .int .i64 fl, .slice A2 rs.length c2, .int .i64 m0, .int .i64 m1, .int .i64 cp, .string nm, .slice A7 1 c7]] w fun e w' => e = .returned (.int .i64 (llT ⟨op, fl, rs, m0, m1, cp, nm, [x]⟩)) ∧ Below w.heap.size w w' := by
  have hb1 : Below w.heap.size w (w.alloc (.cells #[.int .i64 op, .int .i64 fl, .slice A2 rs.length c2, .int .i64 m0, .int .i64 m1, .int .i64 cp, .string nm, .slice A7 1 c7] 40)) := (Below.refl _ _).alloc (Nat.le_refl _) _
  have hcells := blk_all w #[.int .i64 op, .int .i64 fl, .slice A2 rs.length c2, .int .i64 m0, .int .i64 m1, .int .i64 cp, .string nm, .slice A7 1 c7] 40 rfl
  have d0 := hcells 0 _ rfl
  have d3 := hcells 3 _ rfl
  have d7 := hcells 7 _ rfl
  have HB1 := Lib.hid hb1
  have H7 := Lib.hid h7
  clear hb1 hcells h7
  obtain ⟨bb, oo, D2, e2, D7, e7, rfl, y0, y1, y2, y3, y4, y5, y6, y7, l2, g2, l7, g7⟩ := elem_at H7.out (i := 0) rfl
  simp only [Nat.zero_mul, Nat.add_zero] at y0 y1 y2 y3 y4 y5 y6 y7
  have CI : Hid (∀ w1, Below w.heap.size w w1 → Calls Tryd.prog 20 #[.agg #[.int .i64 x.f0, .int .i64 x.f1, .slice D2 x.f2.length e2, .int .i64 x.f3, .int .i64 x.f4, .int .i64 x.f5, .string x.f6, .slice D7 x.f7.length e7]] w1 fun e w' => e = .returned (.int .i64 (llT x)) ∧ Below w1.heap.size w1 w') := Lib.hid fun w1 hb =>
    IH.out x D2 e2 D7 e7 w1 hN (Kd.C_below g2 hb) l2 (Kd.C_below g7 hb) l7 hu hs
  rw [llT, if_neg (by omega), if_neg (by omega), if_pos ho, llH]
  have q0 := Gb.cellB HB1.out y0
  have q1 := Gb.cellB HB1.out y1
  have q2 := Gb.cellB HB1.out y2
  have q3 := Gb.cellB HB1.out y3
  have q4 := Gb.cellB HB1.out y4
  have q5 := Gb.cellB HB1.out y5
  have q6 := Gb.cellB HB1.out y6
  have q7 := Gb.cellB HB1.out y7
  clear y0 y1 y2 y3 y4 y5 y6 y7 g2 g7 l2 l7 hu hs
  rcases ho with rfl | rfl
  all_goals
    go_enter Tryd.func20, Tryd.ntmps20
    go_upto_region 2 with fail
    go_wp2_with (go_at_call 20; refine (CI.out _ HB1.out).mono ?_; rintro e w2 ⟨rfl, hb2⟩)
    go_ret
    exact ⟨rfl, HB1.out.trans (hb2.mono HB1.out.size)⟩
set_option maxRecDepth 100000 in
set_option maxHeartbeats 4000000 in
theorem rll_rep (N : Nat) (IH : Hid (RllI N)) (fl : Int) (rs : List Int) (m0 m1 cp : Int) (nm : ByteArray) (x : Tr) (A2 : Option Addr) (c2 : Nat) (A7 : Option Addr) (c7 : Nat) (w : World) (h7 : k40.C w A7 1 ([x])) (hc7 : 1 ≤ c7) (hN : ncT x ≤ N) (hu : usT x) (hs : snT x) :
    Calls Tryd.prog 20 #[.agg #[.int .i64 17, .int .i64 fl, .slice A2 rs.length c2, .int .i64 m0, .int .i64 m1, .int .i64 cp, .string nm, .slice A7 1 c7]] w fun e w' => e = .returned (.int .i64 (llT ⟨17, fl, rs, m0, m1, cp, nm, [x]⟩)) ∧ Below w.heap.size w w' := by
  have hb1 : Below w.heap.size w (w.alloc (.cells #[.int .i64 17, .int .i64 fl, .slice A2 rs.length c2, .int .i64 m0, .int .i64 m1, .int .i64 cp, .string nm, .slice A7 1 c7] 40)) := (Below.refl _ _).alloc (Nat.le_refl _) _
  have hcells := blk_all w #[.int .i64 17, .int .i64 fl, .slice A2 rs.length c2, .int .i64 m0, .int .i64 m1, .int .i64 cp, .string nm, .slice A7 1 c7] 40 rfl
  have d0 := hcells 0 _ rfl
  have d3 := hcells 3 _ rfl
  have d7 := hcells 7 _ rfl
  have HB1 := Lib.hid hb1
  have H7 := Lib.hid h7
  clear hb1 hcells h7
  obtain ⟨bb, oo, D2, e2, D7, e7, rfl, y0, y1, y2, y3, y4, y5, y6, y7, l2, g2, l7, g7⟩ := elem_at H7.out (i := 0) rfl
  simp only [Nat.zero_mul, Nat.add_zero] at y0 y1 y2 y3 y4 y5 y6 y7
  have CI : Hid (∀ w1, Below w.heap.size w w1 → Calls Tryd.prog 20 #[.agg #[.int .i64 x.f0, .int .i64 x.f1, .slice D2 x.f2.length e2, .int .i64 x.f3, .int .i64 x.f4, .int .i64 x.f5, .string x.f6, .slice D7 x.f7.length e7]] w1 fun e w' => e = .returned (.int .i64 (llT x)) ∧ Below w1.heap.size w1 w') := Lib.hid fun w1 hb =>
    IH.out x D2 e2 D7 e7 w1 hN (Kd.C_below g2 hb) l2 (Kd.C_below g7 hb) l7 hu hs
  rw [llT, if_neg (by omega), if_neg (by omega), if_neg (by omega), if_pos rfl, llH]
  have q0 := Gb.cellB HB1.out y0
  have q1 := Gb.cellB HB1.out y1
  have q2 := Gb.cellB HB1.out y2
  have q3 := Gb.cellB HB1.out y3
  have q4 := Gb.cellB HB1.out y4
  have q5 := Gb.cellB HB1.out y5
  have q6 := Gb.cellB HB1.out y6
  have q7 := Gb.cellB HB1.out y7
  clear y0 y1 y2 y3 y4 y5 y6 y7 g2 g7 l2 l7 hu hs
  generalize hlx : llT x = lx at *
  clear hlx
  go_enter Tryd.func20, Tryd.ntmps20
  go_upto_region 2 with fail
  generalize w.alloc (.cells #[.int .i64 17, .int .i64 fl, .slice A2 rs.length c2, .int .i64 m0, .int .i64 m1, .int .i64 cp, .string nm, .slice (some ⟨bb, oo, none⟩) 1 c7] 40) = W1 at *
  generalize hT0 : w.heap.size = T0 at *
  go_upto_region 17 with fail
  refine Mem.wp_region_midk 6 1 (fun w' => w'.cell? ⟨T0, 3, none⟩ = some (.int .i64 m0) ∧ w'.cell? ⟨T0, 7, none⟩ = some (.slice (some ⟨bb, oo, none⟩) 1 c7) ∧ w'.cell? ⟨bb, oo, none⟩ = some (.int .i64 x.f0) ∧ w'.cell? ⟨bb, oo + 1, none⟩ = some (.int .i64 x.f1) ∧ w'.cell? ⟨bb, oo + 2, none⟩ = some (.slice D2 x.f2.length e2) ∧ w'.cell? ⟨bb, oo + 3, none⟩ = some (.int .i64 x.f3) ∧ w'.cell? ⟨bb, oo + 4, none⟩ = some (.int .i64 x.f4) ∧ w'.cell? ⟨bb, oo + 5, none⟩ = some (.int .i64 x.f5) ∧ w'.cell? ⟨bb, oo + 6, none⟩ = some (.string x.f6) ∧ w'.cell? ⟨bb, oo + 7, none⟩ = some (.slice D7 x.f7.length e7)) (by kernel_rfl) (by kernel_rfl) ⟨d3, d7, q0, q1, q2, q3, q4, q5, q6, q7⟩ ?_
  simp only [List.take_succ_cons, List.take_zero, List.drop_succ_cons, List.drop_zero]
  iterate 6
    refine Mem.wpHeld_step (v := ?_) (by rfl) ?_ ?_
    rotate_left
    · intro w hSw; (try dsimp only at hSw); go_simp; try with_reducible rfl
    try simp only [Act.put, List.setIfInBounds_toArray, List.set_cons_zero, List.set_cons_succ]
  refine Mem.wpHeld_nil ?_
  simp only [Mem.midK]
  refine wpOp_step rfl ?_
  intro K' hK
  go_simp
  go_wp2_with (go_at_call 20; refine (CI.out _ (HB1.out.trans ((Below.refl W1.heap.size W1).drew.mono (by have := HB1.out.size; omega)))).mono ?_; rintro e w2 ⟨rfl, hb2⟩)
  have hb2' : Below W1.heap.size W1 w2 := (Below.refl _ _).drew.trans hb2
  refine ⟨⟨Gb.cellB hb2' d3, Gb.cellB hb2' d7, Gb.cellB hb2' q0, Gb.cellB hb2' q1, Gb.cellB hb2' q2, Gb.cellB hb2' q3, Gb.cellB hb2' q4, Gb.cellB hb2' q5, Gb.cellB hb2' q6, Gb.cellB hb2' q7⟩, ?_⟩
  have HB := Lib.hid hb2'
  clear hb2 hb2' CI
  go_wp2_with fail
  refine NoPanic.normal ?_
  go_wp2
  go_ret
  exact ⟨rfl, by rw [hT0]; exact HB1.out.trans (HB.out.mono (by have := HB1.out.size; omega))⟩
set_option maxRecDepth 100000 in
set_option maxHeartbeats 4000000 in
theorem rll_cat (N : Nat) (IH : Hid (RllI N)) (fl : Int) (rs : List Int) (m0 m1 cp : Int) (nm : ByteArray) (ts : List Tr) (A2 : Option Addr) (c2 : Nat) (A7 : Option Addr) (c7 : Nat) (w : World) (h7 : k40.C w A7 ts.length (ts)) (hc7 : ts.length ≤ c7) (hN : ncL ts ≤ N) (hu : usL ts) (hs : snL ts) :
    Calls Tryd.prog 20 #[.agg #[.int .i64 18, .int .i64 fl, .slice A2 rs.length c2, .int .i64 m0, .int .i64 m1, .int .i64 cp, .string nm, .slice A7 ts.length c7]] w fun e w' => e = .returned (.int .i64 (llT ⟨18, fl, rs, m0, m1, cp, nm, ts⟩)) ∧ Below w.heap.size w w' := by
  have hb1 : Below w.heap.size w (w.alloc (.cells #[.int .i64 18, .int .i64 fl, .slice A2 rs.length c2, .int .i64 m0, .int .i64 m1, .int .i64 cp, .string nm, .slice A7 ts.length c7] 40)) := (Below.refl _ _).alloc (Nat.le_refl _) _
  have hcells := blk_all w #[.int .i64 18, .int .i64 fl, .slice A2 rs.length c2, .int .i64 m0, .int .i64 m1, .int .i64 cp, .string nm, .slice A7 ts.length c7] 40 rfl
  have d0 := hcells 0 _ rfl
  have d3 := hcells 3 _ rfl
  have d7 := hcells 7 _ rfl
  have HB1 := Lib.hid hb1
  have H7 := Lib.hid h7
  clear hb1 hcells h7
  rw [llT, if_neg (by omega), if_neg (by omega), if_neg (by omega), if_neg (by omega), if_pos rfl]
  have hl9 : ts.length ≤ 9223372036854775807 := H7.out.2.1
  have HU := Lib.hid hu
  have HS := Lib.hid hs
  clear hu hs
  go_enter Tryd.func20, Tryd.ntmps20
  go_upto_region 2 with fail
  generalize w.alloc (.cells #[.int .i64 18, .int .i64 fl, .slice A2 rs.length c2, .int .i64 m0, .int .i64 m1, .int .i64 cp, .string nm, .slice A7 ts.length c7] 40) = W1 at *
  generalize hT0 : w.heap.size = T0 at *
  go_wp2_with fail
  clear d0 d3 d7
  go_loopg [3, 53] (ts.length + 1) (fun g s3 s53 wx => ∃ (i : Nat) (a : Int), s3 = .int .i64 a ∧ s53 = .int .i64 i ∧ i ≤ ts.length ∧ llS (ts.drop i) a = llS ts 0 ∧ Below T0 w wx ∧ usL (ts.drop i) ∧ snL (ts.drop i) ∧ ncL (ts.drop i) ≤ N ∧ ts.length - i < g)
  case atStart => exact ⟨0, 0, rfl, rfl, by omega, rfl, HB1.out, HU.out, HS.out, by rw [List.drop_zero]; exact hN, by omega⟩
  case round =>
    obtain ⟨i, a, rfl, rfl, hi, hll, hbw, hus, hsn, hnc, hg⟩ := hrel
    have HB := Lib.hid hbw
    obtain ⟨g', rfl⟩ : ∃ g', gk = g' + 1 := ⟨gk - 1, by omega⟩
    by_cases hlt : i < ts.length
    · obtain ⟨x, ts', hd⟩ : ∃ t ts', ts.drop i = t :: ts' := by
        cases hdr : ts.drop i with
        | nil => have := List.drop_eq_nil_iff.1 hdr; omega
        | cons t ts' => exact ⟨t, ts', rfl⟩
      obtain ⟨bb, oo, D2, e2, D7, e7, rfl, y0, y1, y2, y3, y4, y5, y6, y7, l2, g2, l7, g7⟩ := elem_at H7.out hd
      have hd1 := (rd_at hd).2.2
      rw [hd] at hll hus hsn hnc
      rw [llS] at hll
      rw [usL] at hus
      rw [snL] at hsn
      rw [ncL] at hnc
      have hbT := hbw
      rw [← hT0] at hbT
      have CI : Hid (∀ w1, Below wr.heap.size wr w1 → Calls Tryd.prog 20 #[.agg #[.int .i64 x.f0, .int .i64 x.f1, .slice D2 x.f2.length e2, .int .i64 x.f3, .int .i64 x.f4, .int .i64 x.f5, .string x.f6, .slice D7 x.f7.length e7]] w1 fun e w' => e = .returned (.int .i64 (llT x)) ∧ Below w1.heap.size w1 w') := Lib.hid fun w1 hb1 =>
        IH.out x D2 e2 D7 e7 w1 (by omega) (Kd.C_below (Kd.C_below g2 hbT) hb1) l2 (Kd.C_below (Kd.C_below g7 hbT) hb1) l7 hus.1 hsn.1
      have q0 := Gb.cellB hbT y0
      have q1 := Gb.cellB hbT y1
      have q2 := Gb.cellB hbT y2
      have q3 := Gb.cellB hbT y3
      have q4 := Gb.cellB hbT y4
      have q5 := Gb.cellB hbT y5
      have q6 := Gb.cellB hbT y6
      have q7 := Gb.cellB hbT y7
      have HLL := Lib.hid hll; have HD1 := Lib.hid hd1; have HUS := Lib.hid hus.2; have HSN := Lib.hid hsn.2; have HNC := Lib.hid hnc
      have BA : Below wr.heap.size wr (wr.alloc (.cells #[.int .i64 x.f0, .int .i64 x.f1, .slice D2 x.f2.length e2, .int .i64 x.f3, .int .i64 x.f4, .int .i64 x.f5, .string x.f6, .slice D7 x.f7.length e7] 40)) := (Below.refl _ _).alloc (Nat.le_refl _) _
      have HBA := Lib.hid BA
      clear hll hd hd1 hus hsn hnc hbw hbT y0 y1 y2 y3 y4 y5 y6 y7 g2 g7 l2 l7 BA
      generalize llT x = lx at *
      go_wp2_with (go_at_call 20; refine (CI.out _ HBA.out).mono ?_; rintro e w1 ⟨rfl, hb1⟩)
      go_roundg g'
      case rel => exact ⟨i + 1, _, rfl, by go_num, by omega, by rw [HD1.out]; exact HLL.out, HB.out.trans ((HBA.out.trans (hb1.mono HBA.out.size)).mono (by have := HB.out.size; omega)), by rw [HD1.out]; exact HUS.out, by rw [HD1.out]; exact HSN.out, by rw [HD1.out]; have := HNC.out; omega, by omega⟩
      case measure => omega
    · obtain rfl : i = ts.length := by omega
      rw [List.drop_length, llS] at hll
      have HLL := Lib.hid hll
      clear hll hus hsn hnc hbw
      go_wp2
      go_ret
      exact ⟨by rw [HLL.out]; rfl, by rw [hT0]; exact HB.out⟩
set_option maxRecDepth 100000 in
set_option maxHeartbeats 4000000 in
theorem rll_alt (N : Nat) (IH : Hid (RllI N)) (fl : Int) (rs : List Int) (m0 m1 cp : Int) (nm : ByteArray) (x0 : Tr) (us : List Tr) (A2 : Option Addr) (c2 : Nat) (A7 : Option Addr) (c7 : Nat) (w : World) (h7 : k40.C w A7 (us.length + 1) ((x0 :: us))) (hc7 : (us.length + 1) ≤ c7) (hN0 : ncL (x0 :: us) ≤ N) (hu : usL (x0 :: us)) (hs : snL (x0 :: us)) :
    Calls Tryd.prog 20 #[.agg #[.int .i64 19, .int .i64 fl, .slice A2 rs.length c2, .int .i64 m0, .int .i64 m1, .int .i64 cp, .string nm, .slice A7 (us.length + 1) c7]] w fun e w' => e = .returned (.int .i64 (llT ⟨19, fl, rs, m0, m1, cp, nm, (x0 :: us)⟩)) ∧ Below w.heap.size w w' := by
  have hb1 : Below w.heap.size w (w.alloc (.cells #[.int .i64 19, .int .i64 fl, .slice A2 rs.length c2, .int .i64 m0, .int .i64 m1, .int .i64 cp, .string nm, .slice A7 (us.length + 1) c7] 40)) := (Below.refl _ _).alloc (Nat.le_refl _) _
  have hcells := blk_all w #[.int .i64 19, .int .i64 fl, .slice A2 rs.length c2, .int .i64 m0, .int .i64 m1, .int .i64 cp, .string nm, .slice A7 (us.length + 1) c7] 40 rfl
  have d0 := hcells 0 _ rfl
  have d3 := hcells 3 _ rfl
  have d7 := hcells 7 _ rfl
  have HB1 := Lib.hid hb1
  have H7 := Lib.hid h7
  clear hb1 hcells h7
  rw [llT, if_neg (by omega), if_neg (by omega), if_neg (by omega), if_neg (by omega), if_neg (by omega), if_pos rfl]
  have hux := hu
  have hsx := hs
  have hnx := hN0
  rw [usL] at hux
  rw [snL] at hsx
  rw [ncL] at hnx
  obtain ⟨bb, oo, D2, e2, D7, e7, rfl, y0, y1, y2, y3, y4, y5, y6, y7, l2, g2, l7, g7⟩ := elem_at H7.out (i := 0) rfl
  simp only [Nat.zero_mul, Nat.add_zero] at y0 y1 y2 y3 y4 y5 y6 y7
  have C0 : Hid (∀ w1, Below w.heap.size w w1 → Calls Tryd.prog 20 #[.agg #[.int .i64 x0.f0, .int .i64 x0.f1, .slice D2 x0.f2.length e2, .int .i64 x0.f3, .int .i64 x0.f4, .int .i64 x0.f5, .string x0.f6, .slice D7 x0.f7.length e7]] w1 fun e w' => e = .returned (.int .i64 (llT x0)) ∧ Below w1.heap.size w1 w') := Lib.hid fun w1 hb =>
    IH.out x0 D2 e2 D7 e7 w1 (by omega) (Kd.C_below g2 hb) l2 (Kd.C_below g7 hb) l7 hux.1 hsx.1
  have q0 := Gb.cellB HB1.out y0
  have q1 := Gb.cellB HB1.out y1
  have q2 := Gb.cellB HB1.out y2
  have q3 := Gb.cellB HB1.out y3
  have q4 := Gb.cellB HB1.out y4
  have q5 := Gb.cellB HB1.out y5
  have q6 := Gb.cellB HB1.out y6
  have q7 := Gb.cellB HB1.out y7
  rw [llH]
  have hl9 : us.length + 1 ≤ 9223372036854775807 := H7.out.2.1
  have HU := Lib.hid hu
  have HS := Lib.hid hs
  clear hu hs hux hsx hnx y0 y1 y2 y3 y4 y5 y6 y7 g2 g7 l2 l7
  obtain ⟨ts, hts⟩ : ∃ ts, ts = x0 :: us := ⟨_, rfl⟩
  have hN : ncL ts ≤ N := by rw [hts]; exact hN0
  have hln : us.length + 1 = ts.length := by rw [hts]; rfl
  rw [hln] at hc7 H7 hl9 HB1 d0 d3 d7 q0 q1 q2 q3 q4 q5 q6 q7 ⊢
  rw [← hts] at H7 HU HS ⊢
  have hpos : 0 < ts.length := by omega
  clear hts hN0 hln
  generalize llT x0 = l0 at *
  go_enter Tryd.func20, Tryd.ntmps20
  go_upto_region 2 with fail
  generalize w.alloc (.cells #[.int .i64 19, .int .i64 fl, .slice A2 rs.length c2, .int .i64 m0, .int .i64 m1, .int .i64 cp, .string nm, .slice (some ⟨bb, oo, none⟩) ts.length c7] 40) = W1 at *
  generalize hT0 : w.heap.size = T0 at *
  go_wp2_with (go_at_call 20; refine (C0.out _ HB1.out).mono ?_; rintro e w2 ⟨rfl, hb2⟩; have z7 := Gb.cellB hb2 d7; have HB2 := Lib.hid (HB1.out.trans (hb2.mono (by have := HB1.out.size; omega))); clear hb2)
  clear q0 q1 q2 q3 q4 q5 q6 q7 z7 d0 d3 d7
  go_loopg [3, 72] (ts.length + 1) (fun g s3 s72 wx => ∃ (i : Nat) (a : Int), s3 = .int .i64 a ∧ s72 = .int .i64 i ∧ i ≤ ts.length ∧ llM (ts.drop i) a = llM ts l0 ∧ Below T0 w wx ∧ usL (ts.drop i) ∧ snL (ts.drop i) ∧ ncL (ts.drop i) ≤ N ∧ ts.length - i < g)
  case atStart => exact ⟨0, l0, rfl, rfl, by omega, rfl, HB2.out, HU.out, HS.out, by rw [List.drop_zero]; exact hN, by omega⟩
  case round =>
    obtain ⟨i, a, rfl, rfl, hi, hll, hbw, hus, hsn, hnc, hg⟩ := hrel
    have HB := Lib.hid hbw
    obtain ⟨g', rfl⟩ : ∃ g', gk = g' + 1 := ⟨gk - 1, by omega⟩
    by_cases hlt : i < ts.length
    · obtain ⟨x, ts', hd⟩ : ∃ t ts', ts.drop i = t :: ts' := by
        cases hdr : ts.drop i with
        | nil => have := List.drop_eq_nil_iff.1 hdr; omega
        | cons t ts' => exact ⟨t, ts', rfl⟩
      obtain ⟨bb, oo, D2, e2, D7, e7, hEQ, y0, y1, y2, y3, y4, y5, y6, y7, l2, g2, l7, g7⟩ := elem_at H7.out hd
      have hd1 := (rd_at hd).2.2
      rw [hd] at hll hus hsn hnc
      rw [llM] at hll
      rw [usL] at hus
      rw [snL] at hsn
      rw [ncL] at hnc
      have hbT := hbw
      rw [← hT0] at hbT
      have CI : Hid (∀ w1, Below wr.heap.size wr w1 → Calls Tryd.prog 20 #[.agg #[.int .i64 x.f0, .int .i64 x.f1, .slice D2 x.f2.length e2, .int .i64 x.f3, .int .i64 x.f4, .int .i64 x.f5, .string x.f6, .slice D7 x.f7.length e7]] w1 fun e w' => e = .returned (.int .i64 (llT x)) ∧ Below w1.heap.size w1 w') := Lib.hid fun w1 hb1 =>
        IH.out x D2 e2 D7 e7 w1 (by omega) (Kd.C_below (Kd.C_below g2 hbT) hb1) l2 (Kd.C_below (Kd.C_below g7 hbT) hb1) l7 hus.1 hsn.1
      have q0 := Gb.cellB hbT y0
      have q1 := Gb.cellB hbT y1
      have q2 := Gb.cellB hbT y2
      have q3 := Gb.cellB hbT y3
      have q4 := Gb.cellB hbT y4
      have q5 := Gb.cellB hbT y5
      have q6 := Gb.cellB hbT y6
      have q7 := Gb.cellB hbT y7
      have HLL := Lib.hid hll; have HD1 := Lib.hid hd1; have HUS := Lib.hid hus.2; have HSN := Lib.hid hsn.2; have HNC := Lib.hid hnc
      have BA : Below wr.heap.size wr (wr.alloc (.cells #[.int .i64 x.f0, .int .i64 x.f1, .slice D2 x.f2.length e2, .int .i64 x.f3, .int .i64 x.f4, .int .i64 x.f5, .string x.f6, .slice D7 x.f7.length e7] 40)) := (Below.refl _ _).alloc (Nat.le_refl _) _
      have HBA := Lib.hid BA
      clear hll hd hd1 hus hsn hnc hbw hbT y0 y1 y2 y3 y4 y5 y6 y7 g2 g7 l2 l7 BA
      generalize llT x = lx at *
      injection hEQ with hEQ
      injection hEQ with hE1 hE2 _
      subst hE1 hE2
      go_wp2_with (go_at_call 20; refine (CI.out _ HBA.out).mono ?_; rintro e w1 ⟨rfl, hb1⟩)
      · go_roundg g'
        case rel => exact ⟨i + 1, lx, rfl, by go_num, by omega, by rw [HD1.out]; have := HLL.out; rwa [if_pos h] at this, HB.out.trans ((HBA.out.trans (hb1.mono HBA.out.size)).mono (by have := HB.out.size; omega)), by rw [HD1.out]; exact HUS.out, by rw [HD1.out]; exact HSN.out, by rw [HD1.out]; have := HNC.out; omega, by omega⟩
        case measure => omega
      · go_roundg g'
        case rel => exact ⟨i + 1, a, rfl, by go_num, by omega, by rw [HD1.out]; have := HLL.out; rwa [if_neg (by omega)] at this, HB.out.trans ((HBA.out.trans (hb1.mono HBA.out.size)).mono (by have := HB.out.size; omega)), by rw [HD1.out]; exact HUS.out, by rw [HD1.out]; exact HSN.out, by rw [HD1.out]; have := HNC.out; omega, by omega⟩
        case measure => omega
    · obtain rfl : i = ts.length := by omega
      rw [List.drop_length, llM] at hll
      have HLL := Lib.hid hll
      clear hll hus hsn hnc hbw
      go_wp2
      go_ret
      exact ⟨by rw [HLL.out]; rfl, by rw [hT0]; exact HB.out⟩
theorem reLeastLen_c : ∀ N, RllI N := by
  intro N
  induction N with
  | zero => intro t A2 c2 A7 c7 w hN; have := ncT_pos t; omega
  | succ N ih =>
    intro t A2 c2 A7 c7 w hN h2 hc2 h7 hc7 hu hs
    have IH := Lib.hid ih
    obtain ⟨op, fl, rs, m0, m1, cp, nm, ts⟩ := t
    rw [ncT] at hN
    have hs' := hs
    have hu' := hu
    rw [usT] at hu'
    rw [snT] at hs'
    obtain ⟨f1, f2, f3, f4, f5⟩ := snd_facts hs'.1
    simp only at h2 hc2 h7 hc7
    by_cases h3 : op = 3
    · subst h3
      exact rll_lit fl rs m0 m1 cp nm ts A2 c2 A7 c7 w h2 hc2 h7 hc7 hu
    by_cases h18 : op = 18
    · subst h18
      exact rll_cat N IH fl rs m0 m1 cp nm ts A2 c2 A7 c7 w h7 hc7 (by omega) hu'.2 hs'.2
    by_cases h19 : op = 19
    · have h0 := snd_alt hs'.1 h19
      subst h19
      cases ts with
      | nil => simp at h0
      | cons x ts => exact rll_alt N IH fl rs m0 m1 cp nm x ts A2 c2 A7 c7 w h7 hc7 (by omega) hu'.2 hs'.2
    by_cases h1 : op = 13 ∨ op = 15 ∨ op = 17
    · have hl := f4 (by omega) (by omega)
      match ts, hl with
      | [x], _ =>
        have hux := hu'.2
        have hsx := hs'.2
        rw [usL] at hux
        rw [snL] at hsx
        rw [ncL, ncL] at hN
        by_cases h17 : op = 17
        · subst h17
          exact rll_rep N IH fl rs m0 m1 cp nm x A2 c2 A7 c7 w h7 hc7 (by omega) hux.1 hsx.1
        · exact rll_hd N IH op fl rs m0 m1 cp nm x A2 c2 A7 c7 w h7 hc7 (by omega) (by omega) hux.1 hsx.1
    · exact rll_flat op fl rs m0 m1 cp nm ts A2 c2 A7 c7 w h7 hc7 ⟨h3, by omega, by omega, by omega, h18, h19⟩
end Go.Proofs.YtholpemmakdglaaDoor.PFnMtLeastLen
