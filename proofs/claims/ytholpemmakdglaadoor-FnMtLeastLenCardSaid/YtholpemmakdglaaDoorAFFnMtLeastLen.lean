/- The package's least length of a tree. The package's least length of a literal, a repeat, parts one behind the other and ways. The package's least length of ways, and whole. -/
import Derived.Test.YtholpemmakdglaaDoorACFnMtLeastLen
import Derived.Test.YtholpemmakdglaaDoorADFnMtLeastLen
import Derived.Test.YtholpemmakdglaaDoorAEFnMtLeastLen
import Derived.Test.YtholpemmakdglaaDoorAA
import Derived.Deep.DeepCutAuto
import Derived.Deep.CutBlock
import Derived.Deep.LoopGhost
namespace Go.Proofs.YtholpemmakdglaaDoor.PFnMtLeastLen
open Go.RowKit Go.Proofs.YtholpemmakdglaaDoorW.PrintWords Go.Proofs.YtholpemmakdglaaDoorW.PrintLast Go.Proofs.YtholpemmakdglaaDoorW.PrintMore
set_option linter.unusedVariables false
set_option linter.unusedSimpArgs false
theorem own_at {w : World} {base : Nat} {e : TypeId} {A : Option Addr} {c n : Nat} {xs : List Value} (h : w.ownsRow base e 1 (.slice A n c) n xs) {j : Nat} {u : Value} (hj : xs[j]? = some u) : ∃ g, A = some ⟨g, 0, none⟩ ∧ w.cell? ⟨g, j, none⟩ = some u := by
  rcases h.2 with ⟨hv, hn⟩ | ⟨g, cap, cur, hv, _, hg, _⟩
  · have := h.1
    have hl : j < xs.length := (List.getElem?_eq_some_iff.1 hj).1
    omega
  · injection hv with hA _ _
    refine ⟨g, hA, ?_⟩
    have := h.cells (g := g) (by rw [hA]; rfl) j u hj
    rw [Addr.add_lit] at this
    simpa using this
/-- The least length is known at all smaller trees. -/
def MilI (N : Nat) : Prop := ∀ (t : Tr) (b : Nat) (w : World), ncT t ≤ N → RgT w (fun _ => True) b t → usT t → snT t →
  Calls Tryd.prog 58 #[.pointer (some ⟨b, 0, none⟩)] w fun e w' => e = .returned (.int .i64 (llT t)) ∧ Below w.heap.size w w'
/-- What a walk over a node wants to know. -/
theorem mil_open {w : World} {b : Nat} {op fl : Int} {rs : List Int} {m0 m1 cp : Int} {nm : ByteArray} {ts : List Tr} (h : RgT w (fun _ => True) b ⟨op, fl, rs, m0, m1, cp, nm, ts⟩) :
    ∃ AS cS AR cR bs, w.cell? ⟨b, 0, none⟩ = some (.int .u8 op) ∧ w.cell? ⟨b, 2, none⟩ = some (.slice AS ts.length cS) ∧ w.cell? ⟨b, 4, none⟩ = some (.slice AR rs.length cR) ∧ w.cell? ⟨b, 7, none⟩ = some (.int .i64 m0) ∧
      w.ownsRow 0 62 1 (.slice AS ts.length cS) ts.length (ptrs bs) ∧ w.ownsRow 0 21 1 (.slice AR rs.length cR) rs.length (rs.map (Value.int .i32)) ∧ RgL w (fun _ => True) bs ts ∧ ts.length ≤ maxLen ∧ rs.length ≤ maxLen ∧ ts.length ≤ cS ∧ cS ≤ maxLen := by
  rw [RgT] at h
  obtain ⟨_, vS, vR, bs, hbk, _, hoR, _, hoS, hL⟩ := h
  obtain ⟨AS, cS, rfl⟩ := own_slice hoS
  obtain ⟨AR, cR, rfl⟩ := own_slice hoR
  refine ⟨AS, cS, AR, cR, bs, (blk_cell hbk 0).trans rfl, (blk_cell hbk 2).trans rfl, (blk_cell hbk 4).trans rfl, (blk_cell hbk 7).trans rfl, hoS, hoR, rgL_move (fun k _ _ => ⟨rfl, trivial⟩) _ _ hL, ?_, ?_, ?_⟩
  · rcases hoS.2 with ⟨hv, hn⟩ | ⟨g, cap, cur, hv, _, hg, h3, h4, _⟩
    · rw [hn]; exact Nat.zero_le _
    · exact Nat.le_trans h3 h4
  · rcases hoR.2 with ⟨hv, hn⟩ | ⟨g, cap, cur, hv, _, hg, h3, h4, _⟩
    · rw [hn]; exact Nat.zero_le _
    · exact Nat.le_trans h3 h4
  · rcases hoS.2 with ⟨hv, hn⟩ | ⟨g, cap, cur, hv, _, hg, h3, h4, _⟩
    · injection hv with _ _ hc; rw [hn, hc]; exact ⟨Nat.le_refl _, Nat.zero_le _⟩
    · injection hv with _ _ hc; rw [hc]; exact ⟨h3, h4⟩
/-- A part and its least length. -/
theorem mil_part {N : Nat} (IH : Hid (MilI N)) {w : World} {bs : List Nat} {ts : List Tr} {i : Nat} {x : Tr} (hL : RgL w (fun _ => True) bs ts) (hi : ts[i]? = some x) (hN : ncT x ≤ N) (hu : usT x) (hs : snT x) :
    ∃ c, bs[i]? = some c ∧ Hid (∀ w1, Below w.heap.size w w1 → Calls Tryd.prog 58 #[.pointer (some ⟨c, 0, none⟩)] w1 fun e w' => e = .returned (.int .i64 (llT x)) ∧ Below w1.heap.size w1 w') := by
  obtain ⟨c, hc, hx⟩ := rgL_get ts bs i x hL hi
  exact ⟨c, hc, Lib.hid fun w1 hb => IH.out x c w1 hN (rgT_move (fun k _ hk => ⟨hb.block k hk, trivial⟩) x c hx) hu hs⟩
set_option maxRecDepth 100000 in
set_option maxHeartbeats 4000000 in
theorem mil_flat (op fl : Int) (rs : List Int) (m0 m1 cp : Int) (nm : ByteArray) (ts : List Tr) (b : Nat) (w : World) (ho : op ≠ 3 ∧ op ≠ 13 ∧ op ≠ 15 ∧ op ≠ 17 ∧ op ≠ 18 ∧ op ≠ 19)
    (hr : RgT w (fun _ => True) b ⟨op, fl, rs, m0, m1, cp, nm, ts⟩) :
    Calls Tryd.prog 58 #[.pointer (some ⟨b, 0, none⟩)] w fun e w' => e = .returned (.int .i64 (llT ⟨op, fl, rs, m0, m1, cp, nm, ts⟩)) ∧ Below w.heap.size w w' := by
  obtain ⟨AS, cS, AR, cR, bs, c0, c2, c4, c7, hoS, hoR, hL, _⟩ := mil_open hr
  rw [llT, if_neg ho.1]
  have t3 : (op == 3) = false := by simpa using ho.1
  have t13 : (op == 13) = false := by simpa using ho.2.1
  have t15 : (op == 15) = false := by simpa using ho.2.2.1
  have t17 : (op == 17) = false := by simpa using ho.2.2.2.1
  have t18 : (op == 18) = false := by simpa using ho.2.2.2.2.1
  have t19 : (op == 19) = false := by simpa using ho.2.2.2.2.2
  by_cases h6 : op = 6
  · have t6 : (op == 6) = true := by simpa using h6
    rw [if_pos (by omega)]
    clear ho h6
    go_enter Tryd.func58, Tryd.ntmps58
    go_wp2_with fail
    go_ret
    exact ⟨rfl, Below.refl _ _⟩
  have t6 : (op == 6) = false := by simpa using h6
  by_cases h5 : op = 5
  · have t5 : (op == 5) = true := by simpa using h5
    rw [if_pos (by omega)]
    clear ho h6 h5
    go_enter Tryd.func58, Tryd.ntmps58
    go_wp2_with fail
    go_ret
    exact ⟨rfl, Below.refl _ _⟩
  have t5 : (op == 5) = false := by simpa using h5
  by_cases h4 : op = 4
  · have t4 : (op == 4) = true := by simpa using h4
    rw [if_pos (by omega)]
    clear ho h6 h5 h4
    go_enter Tryd.func58, Tryd.ntmps58
    go_wp2_with fail
    go_ret
    exact ⟨rfl, Below.refl _ _⟩
  have t4 : (op == 4) = false := by simpa using h4
  rw [if_neg (by omega), if_neg (by omega), if_neg ho.2.2.2.1, if_neg ho.2.2.2.2.1, if_neg ho.2.2.2.2.2]
  clear ho h6 h5 h4
  go_enter Tryd.func58, Tryd.ntmps58
  go_wp2_with fail
  go_ret
  exact ⟨rfl, Below.refl _ _⟩
set_option maxRecDepth 100000 in
set_option maxHeartbeats 4000000 in
theorem mil_hd (N : Nat) (IH : Hid (MilI N)) (op fl : Int) (rs : List Int) (m0 m1 cp : Int) (nm : ByteArray) (x : Tr) (b : Nat) (w : World) (hN : ncT x ≤ N) (ho : op = 13 ∨ op = 15)
    (hr : RgT w (fun _ => True) b ⟨op, fl, rs, m0, m1, cp, nm, [x]⟩) (hu : usT x) (hs : snT x) :
    Calls Tryd.prog 58 #[.pointer (some ⟨b, 0, none⟩)] w fun e w' => e = .returned (.int .i64 (llT ⟨op, fl, rs, m0, m1, cp, nm, [x]⟩)) ∧ Below w.heap.size w w' := by
  obtain ⟨AS, cS, AR, cR, bs, c0, c2, c4, c7, hoS, hoR, hL, _⟩ := mil_open hr
  obtain ⟨c, hc, CI⟩ := mil_part IH hL (i := 0) rfl hN hu hs
  obtain ⟨gg, rfl, hcell⟩ := own_at (u := .pointer (some ⟨c, 0, none⟩)) hoS (j := 0) (by simp [ptrs, hc])
  rw [llT, if_neg (by omega), if_neg (by omega), if_pos ho, llH]
  clear hoS hoR hL hr hc
  rcases ho with rfl | rfl
  all_goals
    go_enter Tryd.func58, Tryd.ntmps58
    go_wp2_with (go_at_call 58; refine (CI.out _ (Below.refl _ _)).mono ?_; rintro e w1 ⟨rfl, hb1⟩)
    go_ret
    exact ⟨rfl, hb1⟩
end Go.Proofs.YtholpemmakdglaaDoor.PFnMtLeastLen
namespace Go.Proofs.YtholpemmakdglaaDoor.PFnMtLeastLen
open Go.RowKit Go.Proofs.YtholpemmakdglaaDoorW.PrintWords Go.Proofs.YtholpemmakdglaaDoorW.PrintLast Go.Proofs.YtholpemmakdglaaDoorW.PrintMore
set_option linter.unusedVariables false
set_option linter.unusedSimpArgs false
set_option maxRecDepth 100000 in
set_option maxHeartbeats 4000000 in
theorem mil_lit (fl : Int) (rs : List Int) (m0 m1 cp : Int) (nm : ByteArray) (ts : List Tr) (b : Nat) (w : World)
    (hr : RgT w (fun _ => True) b ⟨3, fl, rs, m0, m1, cp, nm, ts⟩) (hu : ∀ c ∈ rs, chOk c) :
    Calls Tryd.prog 58 #[.pointer (some ⟨b, 0, none⟩)] w fun e w' => e = .returned (.int .i64 (llT ⟨3, fl, rs, m0, m1, cp, nm, ts⟩)) ∧ Below w.heap.size w w' := by
  obtain ⟨AS, cS, AR, cR, bs, c0, c2, c4, c7, hoS, hoR, hL, _, hlr, _⟩ := mil_open hr
  rw [llT, if_pos rfl]
  have hl9 : rs.length ≤ 9223372036854775807 := by unfold maxLen at hlr; omega
  have HU := Lib.hid hu
  have HO := Lib.hid hoR
  clear hoS hoR hL hr hu hlr
  go_enter Tryd.func58, Tryd.ntmps58
  go_wp2_with fail
  go_loopg [3, 28] (rs.length + 1) (fun g s3 s28 wx => ∃ (i q : Nat) (a : Int), s3 = .int .i64 a ∧ s28 = .int .i64 i ∧ i ≤ rs.length ∧ widL (rs.drop i) a = widL rs 0 ∧ wx = w.drewN q ∧ rs.length - i < g)
  case atStart => exact ⟨0, 0, 0, rfl, rfl, by omega, rfl, rfl, by omega⟩
  case round =>
    obtain ⟨i, q, a, rfl, rfl, hi, hwd, rfl, hg⟩ := hrel
    have HW := Lib.hid hwd
    clear hwd
    obtain ⟨g', rfl⟩ : ∃ g', gk = g' + 1 := ⟨gk - 1, by omega⟩
    by_cases hlt : i < rs.length
    · obtain ⟨c, l, hd⟩ : ∃ c l, rs.drop i = c :: l := by
        cases hdr : rs.drop i with
        | nil => have := List.drop_eq_nil_iff.1 hdr; omega
        | cons t ts' => exact ⟨t, ts', rfl⟩
      have hci : rs[i]? = some c := by
        have := congrArg List.head? hd
        rw [List.head?_drop] at this
        simpa using this
      have hok := HU.out c (List.mem_of_getElem? hci)
      obtain ⟨gg, rfl, hcell⟩ := own_at (u := .int .i32 c) HO.out (j := i) (by simp [hci])
      have hq : (w.drewN q).cell? ⟨gg, i, none⟩ = some (.int .i32 c) := hcell
      have hd1 : rs.drop (i + 1) = l := by
        have h1 := List.drop_eq_getElem_cons hlt
        rw [hd] at h1
        injection h1 with _ h2
        exact h2.symm
      have hw := HW.out
      rw [hd, widL] at hw
      have HD1 := Lib.hid hd1
      by_cases h53 : c = 65533
      · have hb : (c == 65533) = true := by simpa using h53
        have hwf : widF c = 1 := by unfold widF; rw [if_pos h53]
        rw [hwf] at hw
        have HW2 := Lib.hid hw
        clear hd hci hok hcell hd1 hw h53 hwf HW
        go_wp2_with fail
        go_roundg g'
        case rel => exact ⟨i + 1, q, _, rfl, by go_num, by omega, by rw [HD1.out]; exact HW2.out, rfl, by omega⟩
        case measure => omega
      · have hb : (c == 65533) = false := by simpa using h53
        obtain ⟨kv, hkv⟩ := (width_ev hok h53).rounds
        have CV : Hid (∀ w1, Calls Tryd.prog 72 #[.int .i32 c] w1 fun e w' => e = .returned (.int .i64 (widF c)) ∧ Drawn0 w1 w') := Lib.hid fun w1 => utf8_RuneLen.calls kv c _ w1 hkv
        have HW2 := Lib.hid hw
        clear hd hci hok hcell hd1 hw h53 hkv HW
        generalize widF c = wf at *
        go_wp2_with (go_at_call 72; refine (CV.out _).mono ?_; rintro e w1 ⟨rfl, q1, rfl⟩)
        go_roundg g'
        case rel => exact ⟨i + 1, q + q1, _, rfl, by go_num, by omega, by rw [HD1.out]; exact HW2.out, rfl, by omega⟩
        case measure => omega
    · obtain rfl : i = rs.length := by omega
      have hw := HW.out
      rw [List.drop_length, widL] at hw
      have HW2 := Lib.hid hw
      clear hw HW
      go_wp2
      go_ret
      exact ⟨by rw [HW2.out]; rfl, Gb.dn (Below.refl _ _) q⟩
set_option maxRecDepth 100000 in
set_option maxHeartbeats 4000000 in
theorem mil_rep (N : Nat) (IH : Hid (MilI N)) (fl : Int) (rs : List Int) (m0 m1 cp : Int) (nm : ByteArray) (x : Tr) (b : Nat) (w : World) (hN : ncT x ≤ N)
    (hr : RgT w (fun _ => True) b ⟨17, fl, rs, m0, m1, cp, nm, [x]⟩) (hu : usT x) (hs : snT x) :
    Calls Tryd.prog 58 #[.pointer (some ⟨b, 0, none⟩)] w fun e w' => e = .returned (.int .i64 (llT ⟨17, fl, rs, m0, m1, cp, nm, [x]⟩)) ∧ Below w.heap.size w w' := by
  obtain ⟨AS, cS, AR, cR, bs, c0, c2, c4, c7, hoS, hoR, hL, _⟩ := mil_open hr
  obtain ⟨c, hc, CI⟩ := mil_part IH hL (i := 0) rfl hN hu hs
  obtain ⟨gg, rfl, hcell⟩ := own_at (u := .pointer (some ⟨c, 0, none⟩)) hoS (j := 0) (by simp [ptrs, hc])
  rw [llT, if_neg (by omega), if_neg (by omega), if_neg (by omega), if_pos rfl, llH]
  clear hoS hoR hL hr hc
  generalize hlx : llT x = lx at *
  clear hlx
  go_enter Tryd.func58, Tryd.ntmps58
  go_upto_region 21 with fail
  refine Mem.wp_region_midk 10 1 (fun w' => w'.cell? ⟨b, 7, none⟩ = some (.int .i64 m0) ∧ w'.cell? ⟨b, 2, none⟩ = some (.slice (some ⟨gg, 0, none⟩) 1 cS) ∧ w'.cell? ⟨gg, 0, none⟩ = some (.pointer (some ⟨c, 0, none⟩))) (by kernel_rfl) (by kernel_rfl) ⟨c7, c2, hcell⟩ ?_
  simp only [List.take_succ_cons, List.take_zero, List.drop_succ_cons, List.drop_zero]
  iterate 10
    refine Mem.wpHeld_step (v := ?_) (by rfl) ?_ ?_
    rotate_left
    · intro w hSw; (try dsimp only at hSw); go_simp; try with_reducible rfl
    try simp only [Act.put, List.setIfInBounds_toArray, List.set_cons_zero, List.set_cons_succ]
  refine Mem.wpHeld_nil ?_
  simp only [Mem.midK]
  refine wpOp_step rfl ?_
  intro K' hK
  go_simp
  go_wp2_with (go_at_call 58; refine (CI.out _ ((Below.refl _ _).drew)).mono ?_; rintro e w1 ⟨rfl, hb1⟩)
  have hb1' : Below w.heap.size w w1 := (Below.refl _ _).drew.trans hb1
  refine ⟨⟨Gb.cellB hb1' c7, Gb.cellB hb1' c2, Gb.cellB hb1' hcell⟩, ?_⟩
  have HB := Lib.hid hb1'
  clear hb1 hb1' CI
  go_wp2_with fail
  refine NoPanic.normal ?_
  go_wp2
  go_ret
  exact ⟨rfl, HB.out⟩
set_option maxRecDepth 100000 in
set_option maxHeartbeats 4000000 in
theorem mil_cat (N : Nat) (IH : Hid (MilI N)) (fl : Int) (rs : List Int) (m0 m1 cp : Int) (nm : ByteArray) (ts : List Tr) (b : Nat) (w : World) (hN : ncL ts ≤ N)
    (hr : RgT w (fun _ => True) b ⟨18, fl, rs, m0, m1, cp, nm, ts⟩) (hu : usL ts) (hs : snL ts) :
    Calls Tryd.prog 58 #[.pointer (some ⟨b, 0, none⟩)] w fun e w' => e = .returned (.int .i64 (llT ⟨18, fl, rs, m0, m1, cp, nm, ts⟩)) ∧ Below w.heap.size w w' := by
  obtain ⟨AS, cS, AR, cR, bs, c0, c2, c4, c7, hoS, hoR, hL, hlt, _⟩ := mil_open hr
  rw [llT, if_neg (by omega), if_neg (by omega), if_neg (by omega), if_neg (by omega), if_pos rfl]
  have hl9 : ts.length ≤ 9223372036854775807 := by unfold maxLen at hlt; omega
  have HL := Lib.hid hL
  have HO := Lib.hid hoS
  have HU := Lib.hid hu
  have HS := Lib.hid hs
  clear hoS hoR hL hr hu hs hlt
  go_enter Tryd.func58, Tryd.ntmps58
  go_wp2_with fail
  go_loopg [6, 73] (ts.length + 1) (fun g s6 s73 wx => ∃ (i : Nat) (a : Int), s6 = .int .i64 a ∧ s73 = .int .i64 i ∧ i ≤ ts.length ∧ llS (ts.drop i) a = llS ts 0 ∧ Below w.heap.size w wx ∧ usL (ts.drop i) ∧ snL (ts.drop i) ∧ ncL (ts.drop i) ≤ N ∧ ts.length - i < g)
  case atStart => exact ⟨0, 0, rfl, rfl, by omega, rfl, Below.refl _ _, HU.out, HS.out, by rw [List.drop_zero]; exact hN, by omega⟩
  case round =>
    obtain ⟨i, a, rfl, rfl, hi, hll, hbw, hus, hsn, hnc, hg⟩ := hrel
    have HB := Lib.hid hbw
    obtain ⟨g', rfl⟩ : ∃ g', gk = g' + 1 := ⟨gk - 1, by omega⟩
    by_cases hlt : i < ts.length
    · obtain ⟨x, ts', hd⟩ : ∃ t ts', ts.drop i = t :: ts' := by
        cases hdr : ts.drop i with
        | nil => have := List.drop_eq_nil_iff.1 hdr; omega
        | cons t ts' => exact ⟨t, ts', rfl⟩
      have hxi : ts[i]? = some x := by
        have := congrArg List.head? hd
        rw [List.head?_drop] at this
        simpa using this
      have hd1 := (rd_at hd).2.2
      rw [hd] at hll hus hsn hnc
      rw [llS] at hll
      rw [usL] at hus
      rw [snL] at hsn
      rw [ncL] at hnc
      obtain ⟨c, hc, CI⟩ := mil_part IH HL.out hxi (by omega) hus.1 hsn.1
      obtain ⟨gg, rfl, hcell⟩ := own_at (u := .pointer (some ⟨c, 0, none⟩)) HO.out (j := i) (by simp [ptrs, hc])
      have q0 := Gb.cellB hbw hcell
      have HLL := Lib.hid hll; have HD1 := Lib.hid hd1; have HUS := Lib.hid hus.2; have HSN := Lib.hid hsn.2; have HNC := Lib.hid hnc
      clear hll hd hxi hd1 hus hsn hnc hc hcell hbw
      generalize llT x = lx at *
      go_wp2_with (go_at_call 58; refine (CI.out _ HB.out).mono ?_; rintro e w1 ⟨rfl, hb1⟩)
      go_roundg g'
      case rel => exact ⟨i + 1, _, rfl, by go_num, by omega, by rw [HD1.out]; exact HLL.out, HB.out.trans (hb1.mono HB.out.size), by rw [HD1.out]; exact HUS.out, by rw [HD1.out]; exact HSN.out, by rw [HD1.out]; have := HNC.out; omega, by omega⟩
      case measure => omega
    · obtain rfl : i = ts.length := by omega
      rw [List.drop_length, llS] at hll
      have HLL := Lib.hid hll
      clear hll hus hsn hnc hbw
      go_wp2
      go_ret
      exact ⟨by rw [HLL.out]; rfl, HB.out⟩
end Go.Proofs.YtholpemmakdglaaDoor.PFnMtLeastLen
namespace Go.Proofs.YtholpemmakdglaaDoor.PFnMtLeastLen
open Go.RowKit Go.Proofs.YtholpemmakdglaaDoorW.PrintWords Go.Proofs.YtholpemmakdglaaDoorW.PrintLast Go.Proofs.YtholpemmakdglaaDoorW.PrintMore
set_option linter.unusedVariables false
set_option linter.unusedSimpArgs false
set_option maxRecDepth 100000 in
set_option maxHeartbeats 4000000 in
theorem mil_alt (N : Nat) (IH : Hid (MilI N)) (fl : Int) (rs : List Int) (m0 m1 cp : Int) (nm : ByteArray) (x : Tr) (ts : List Tr) (b : Nat) (w : World) (hN : ncL (x :: ts) ≤ N)
    (hr : RgT w (fun _ => True) b ⟨19, fl, rs, m0, m1, cp, nm, x :: ts⟩) (hu : usL (x :: ts)) (hs : snL (x :: ts)) :
    Calls Tryd.prog 58 #[.pointer (some ⟨b, 0, none⟩)] w fun e w' => e = .returned (.int .i64 (llT ⟨19, fl, rs, m0, m1, cp, nm, x :: ts⟩)) ∧ Below w.heap.size w w' := by
  obtain ⟨AS, cS, AR, cR, bs, c0, c2, c4, c7, hoS, hoR, hL, hlt, _, hcS, hcm⟩ := mil_open hr
  rw [llT, if_neg (by omega), if_neg (by omega), if_neg (by omega), if_neg (by omega), if_neg (by omega), if_pos rfl, llM_head]
  rw [usL] at hu
  rw [snL] at hs
  rw [ncL] at hN
  obtain ⟨c, hc, CI⟩ := mil_part IH hL (i := 0) rfl (by omega) hu.1 hs.1
  obtain ⟨gg, rfl, hcell⟩ := own_at (u := .pointer (some ⟨c, 0, none⟩)) hoS (j := 0) (by simp [ptrs, hc])
  simp only [List.length_cons] at c2 hlt hcS hoS
  have hl9 : ts.length + 1 ≤ 9223372036854775807 := by unfold maxLen at hlt; omega
  have hc9 : cS ≤ 9223372036854775807 := by unfold maxLen at hcm; omega
  have HL := Lib.hid hL
  have HO := Lib.hid hoS
  have HU := Lib.hid hu.2
  have HS := Lib.hid hs.2
  have hN2 : ncL ts ≤ N := by omega
  clear hoS hoR hL hr hu hs hlt hc hN hcm
  generalize hlx : llT x = lx at *
  clear hlx
  by_cases hcap : cS = 1
  · subst hcap
    have h0 : ts = [] := List.length_eq_zero_iff.1 (by omega)
    subst h0
    rw [llM]
    go_enter Tryd.func58, Tryd.ntmps58
    go_wp2_with (go_at_call 58; refine (CI.out _ (Below.refl _ _)).mono ?_; rintro e w1 ⟨rfl, hb1⟩; have y2 := Gb.cellB hb1 c2; have HB1 := Lib.hid hb1; clear hb1)
    go_loopg [9, 98] 2 (fun g s9 s98 wx => s9 = .int .i64 lx ∧ s98 = .int .i64 0 ∧ wx = w1 ∧ 0 < g)
    case atStart => exact ⟨rfl, rfl, rfl, by omega⟩
    case round =>
      obtain ⟨rfl, rfl, rfl, hg⟩ := hrel
      go_wp2_with fail
      go_ret
      exact ⟨rfl, HB1.out⟩
  · have i1 : (1 : Int) ≤ (ts.length : Int) + 1 := by omega
    have i2 : (ts.length : Int) + 1 ≤ (cS : Int) := by omega
    have i3 : (1 : Int) < (cS : Int) := by omega
    have i4 : 1 < cS := by omega
    go_enter Tryd.func58, Tryd.ntmps58
    go_wp2_with (go_at_call 58; refine (CI.out _ (Below.refl _ _)).mono ?_; rintro e w1 ⟨rfl, hb1⟩; have y2 := Gb.cellB hb1 c2; have HB1 := Lib.hid hb1; clear hb1)
    go_loopg [9, 98] (ts.length + 1) (fun g s9 s98 wx => ∃ (i : Nat) (a : Int), s9 = .int .i64 a ∧ s98 = .int .i64 i ∧ i ≤ ts.length ∧ llM (ts.drop i) a = llM ts lx ∧ Below w.heap.size w wx ∧ usL (ts.drop i) ∧ snL (ts.drop i) ∧ ncL (ts.drop i) ≤ N ∧ ts.length - i < g)
    case atStart => exact ⟨0, lx, rfl, rfl, by omega, rfl, HB1.out, HU.out, HS.out, hN2, by omega⟩
    case round =>
      obtain ⟨i, a, rfl, rfl, hi, hll, hbw, hus, hsn, hnc, hg⟩ := hrel
      have HB := Lib.hid hbw
      obtain ⟨g', rfl⟩ : ∃ g', gk = g' + 1 := ⟨gk - 1, by omega⟩
      by_cases hlt : i < ts.length
      · obtain ⟨y, ts', hd⟩ : ∃ t ts', ts.drop i = t :: ts' := by
          cases hdr : ts.drop i with
          | nil => have := List.drop_eq_nil_iff.1 hdr; omega
          | cons t ts' => exact ⟨t, ts', rfl⟩
        have hxi : (x :: ts)[i + 1]? = some y := by
          have := congrArg List.head? hd
          rw [List.head?_drop] at this
          simpa using this
        have hd1 := (rd_at hd).2.2
        rw [hd] at hll hus hsn hnc
        rw [llM] at hll
        rw [usL] at hus
        rw [snL] at hsn
        rw [ncL] at hnc
        obtain ⟨c', hc', CJ⟩ := mil_part IH HL.out hxi (by omega) hus.1 hsn.1
        obtain ⟨g2, hg2, hcell'⟩ := own_at (u := .pointer (some ⟨c', 0, none⟩)) HO.out (j := i + 1) (by simp [ptrs, hc'])
        injection hg2 with hg2
        injection hg2 with hg2 _ _
        subst hg2
        have q0 : wr.cell? ⟨gg, 1 + i, none⟩ = some (.pointer (some ⟨c', 0, none⟩)) := by rw [Nat.add_comm]; exact Gb.cellB hbw hcell'
        have HD1 := Lib.hid hd1; have HUS := Lib.hid hus.2; have HSN := Lib.hid hsn.2; have HNC := Lib.hid hnc
        have HLL := Lib.hid hll
        clear hll hd hxi hd1 hus hsn hnc hc' hcell' hbw y2
        generalize llT y = ly at *
        by_cases hly : ly < a
        · have hb : decide (ly < a) = true := by simpa using hly
          have HL2 : Hid (llM ts' ly = llM ts lx) := Lib.hid (by have := HLL.out; rwa [if_pos hly] at this)
          clear hly HLL
          go_wp2_with (go_at_call 58; refine (CJ.out _ HB.out).mono ?_; rintro e w2 ⟨rfl, hb2⟩)
          go_roundg g'
          case rel => exact ⟨i + 1, _, rfl, by go_num, by omega, by rw [HD1.out]; exact HL2.out, HB.out.trans (hb2.mono HB.out.size), by rw [HD1.out]; exact HUS.out, by rw [HD1.out]; exact HSN.out, by rw [HD1.out]; have := HNC.out; omega, by omega⟩
          case measure => omega
        · have hb : decide (ly < a) = false := by simpa using hly
          have HL2 : Hid (llM ts' a = llM ts lx) := Lib.hid (by have := HLL.out; rwa [if_neg hly] at this)
          clear hly HLL
          go_wp2_with (go_at_call 58; refine (CJ.out _ HB.out).mono ?_; rintro e w2 ⟨rfl, hb2⟩)
          go_roundg g'
          case rel => exact ⟨i + 1, _, rfl, by go_num, by omega, by rw [HD1.out]; exact HL2.out, HB.out.trans (hb2.mono HB.out.size), by rw [HD1.out]; exact HUS.out, by rw [HD1.out]; exact HSN.out, by rw [HD1.out]; have := HNC.out; omega, by omega⟩
          case measure => omega
      · obtain rfl : i = ts.length := by omega
        rw [List.drop_length, llM] at hll
        have HLL := Lib.hid hll
        clear hll hus hsn hnc hbw y2
        go_wp2
        go_ret
        exact ⟨by rw [HLL.out]; rfl, HB.out⟩
theorem minLen_c : ∀ N, MilI N := by
  intro N
  induction N with
  | zero => intro t b w hN; have := ncT_pos t; omega
  | succ N ih =>
    intro t b w hN hr hu hs
    have IH := Lib.hid ih
    obtain ⟨op, fl, rs, m0, m1, cp, nm, ts⟩ := t
    rw [ncT] at hN
    rw [usT] at hu
    rw [snT] at hs
    obtain ⟨f1, f2, f3, f4, f5⟩ := snd_facts hs.1
    by_cases h3 : op = 3
    · subst h3
      exact mil_lit fl rs m0 m1 cp nm ts b w hr (hu.1 rfl)
    by_cases h18 : op = 18
    · subst h18
      exact mil_cat N IH fl rs m0 m1 cp nm ts b w (by omega) hr hu.2 hs.2
    by_cases h19 : op = 19
    · have h0 := snd_alt hs.1 h19
      subst h19
      cases ts with
      | nil => simp at h0
      | cons x ts => exact mil_alt N IH fl rs m0 m1 cp nm x ts b w (by omega) hr hu.2 hs.2
    by_cases h1 : op = 13 ∨ op = 15 ∨ op = 17
    · have hl := f4 (by omega) (by omega)
      match ts, hl with
      | [x], _ =>
        have hux := hu.2
        have hsx := hs.2
        rw [usL] at hux
        rw [snL] at hsx
        rw [ncL, ncL] at hN
        by_cases h17 : op = 17
        · subst h17
          exact mil_rep N IH fl rs m0 m1 cp nm x b w (by omega) hr hux.1 hsx.1
        · exact mil_hd N IH op fl rs m0 m1 cp nm x b w (by omega) (by omega) hr hux.1 hsx.1
    · exact mil_flat op fl rs m0 m1 cp nm ts b w ⟨h3, by omega, by omega, by omega, h18, h19⟩ hr
end Go.Proofs.YtholpemmakdglaaDoor.PFnMtLeastLen
