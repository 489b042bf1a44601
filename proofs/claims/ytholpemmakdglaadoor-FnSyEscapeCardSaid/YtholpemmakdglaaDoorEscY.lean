/- The reference's reader of an escape, by its characters. -/
import Derived.Test.YtholpemmakdglaaDoorEscX
namespace Go.Proofs.YtholpemmakdglaaDoor.Esc
open Go.RowKit Go.Lib Tx
set_option linter.unusedVariables false
set_option maxRecDepth 100000 in
set_option maxHeartbeats 4000000 in
theorem esc_short (s : ByteArray) (b : Nat) (w : World) (h : Rd w b s 0 0) (hk : 1 ≤ s.size) (hm : s.size ≤ 1000) (h1s : s.size = 1) :
    Calls Tryd.prog 41 #[.pointer (some ⟨b, 0, none⟩)] w (HexPost (esc s) s b w) := by
  have hA : esc s = (0, 0, 13) := by unfold esc; rw [if_pos (by omega)]
  rw [hA]
  clear hA
  have h0 := h.s0; have h1 := h.a1; have h2 := h.f1
  have hbl := h.lt
  have hQ : w.heap.size ≠ b := by omega
  have CF : Hid (∀ kd k' err w1, Rd w1 b s k' err → Calls Tryd.prog 59 #[.pointer (some ⟨b, 0, none⟩), .int .i64 kd] w1 fun e w' => e = .returned (.tuple #[]) ∧ Left w1 b s k' (if err = 0 then kd else err) w') := Lib.hid fun kd k' err w1 h => fail_c s b k' err w1 kd h
  have HRW : Hid (Rd ((w.setCell ⟨b, 1, none⟩ (.int .i64 1)).alloc (.cells #[.pointer (some ⟨b, 0, none⟩)] 66)) b s 1 0) := Lib.hid ((h.setAt 1).below ((Below.refl _ _).alloc (Nat.le_refl _) _))
  have HGW : Hid (w.grownBy ((w.setCell ⟨b, 1, none⟩ (.int .i64 1)).alloc (.cells #[.pointer (some ⟨b, 0, none⟩)] 66)) (some b)) := Lib.hid (gb_trans (gb_set _ _ _ _) (World.grownBy_alloc _ _ _))
  have hq : ((w.setCell ⟨b, 1, none⟩ (.int .i64 1)).alloc (.cells #[.pointer (some ⟨b, 0, none⟩)] 66)).cell? ⟨w.heap.size, 0, none⟩ = some (.pointer (some ⟨b, 0, none⟩)) := alloc_at _ _ _ (by simp [World.setCell])
  have hd : decide (s.size ≤ 1) = true := by simp; omega
  have hd2 : decide ((s.size : Int) ≤ 1) = true := by simp; omega
  clear h1s
  clear h
  go_enter Tryd.func41, Tryd.ntmps41
  go_upto_region 2 with fail
  generalize (w.setCell ⟨b, 1, none⟩ (.int .i64 1)).alloc (.cells #[.pointer (some ⟨b, 0, none⟩)] 66) = W at *
  generalize w.heap.size = Q at *
  have g0 := HRW.out.s0; have g1 := HRW.out.a1
  clear h0 h1 h2 hbl
  go_quiet (fail)
  generalize hWd : W.drewN nq = Wd at *
  have HRD : Hid (Rd Wd b s 1 0) := Lib.hid (by rw [← hWd]; exact HRW.out.drewN nq)
  have HGD : Hid (w.grownBy Wd (some b)) := Lib.hid (by rw [← hWd]; exact gb_trans HGW.out (gb_drewN _ _ _))
  have hqd : Wd.cell? ⟨Q, 0, none⟩ = some (.pointer (some ⟨b, 0, none⟩)) := by rw [← hWd]; exact hq
  clear hWd HRW HGW hq g0 g1
  go_wp2_with fail
  refine (CF.out _ _ _ _ HRD.out).mono ?_
  rintro e w3 ⟨rfl, hR3, hg3⟩
  have HR3 := Lib.hid hR3; have HG3 := Lib.hid (gb_trans HGD.out hg3); clear hR3 hg3
  go_wp2
  go_ret
  exact ⟨_, 1, rfl, ⟨HR3.out, HG3.out⟩, fun h => absurd h (by simp), hk⟩
set_option maxRecDepth 100000 in
set_option maxHeartbeats 4000000 in
theorem esc_bad (s : ByteArray) (b : Nat) (w : World) (h : Rd w b s 0 0) (hk : 1 ≤ s.size) (hm : s.size ≤ 1000) (h1s : 1 < s.size) (hb : bad s 1 = true) :
    Calls Tryd.prog 41 #[.pointer (some ⟨b, 0, none⟩)] w (HexPost (esc s) s b w) := by
  have hA : esc s = (0, 0, 9) := by unfold esc; rw [if_neg (by omega), if_pos hb]
  rw [hA]
  clear hA
  have h0 := h.s0; have h1 := h.a1; have h2 := h.f1
  have hbl := h.lt
  have hQ : w.heap.size ≠ b := by omega
  have CF : Hid (∀ kd k' err w1, Rd w1 b s k' err → Calls Tryd.prog 59 #[.pointer (some ⟨b, 0, none⟩), .int .i64 kd] w1 fun e w' => e = .returned (.tuple #[]) ∧ Left w1 b s k' (if err = 0 then kd else err) w') := Lib.hid fun kd k' err w1 h => fail_c s b k' err w1 kd h
  have HRW : Hid (Rd ((w.setCell ⟨b, 1, none⟩ (.int .i64 1)).alloc (.cells #[.pointer (some ⟨b, 0, none⟩)] 66)) b s 1 0) := Lib.hid ((h.setAt 1).below ((Below.refl _ _).alloc (Nat.le_refl _) _))
  have HGW : Hid (w.grownBy ((w.setCell ⟨b, 1, none⟩ (.int .i64 1)).alloc (.cells #[.pointer (some ⟨b, 0, none⟩)] 66)) (some b)) := Lib.hid (gb_trans (gb_set _ _ _ _) (World.grownBy_alloc _ _ _))
  have hq : ((w.setCell ⟨b, 1, none⟩ (.int .i64 1)).alloc (.cells #[.pointer (some ⟨b, 0, none⟩)] 66)).cell? ⟨w.heap.size, 0, none⟩ = some (.pointer (some ⟨b, 0, none⟩)) := alloc_at _ _ _ (by simp [World.setCell])
  have hd : decide (s.size ≤ 1) = false := by simp; omega
  have hd2 : decide ((s.size : Int) ≤ 1) = false := by simp; omega
  have hfit := decode_fits s 1 h1s
  have hk1 := hfit.2
  have CC : Hid (∀ w1, Rd w1 b s 1 0 → Calls Tryd.prog 61 #[.pointer (some ⟨b, 0, none⟩)] w1 fun e w' => e = .returned (.int .i32 ((Utf8.decode s 1).1 : Nat)) ∧ Left w1 b s (1 + (Utf8.decode s 1).2) (if bad s 1 = true then 9 else 0) w') := Lib.hid fun w1 h => by
    have := char_c s b 1 0 w1 h h1s hm
    simpa using this
  rw [if_pos hb] at CC
  generalize (Utf8.decode s 1).1 = c at *
  generalize 1 + (Utf8.decode s 1).2 = k1 at *
  clear hfit h1s hb
  clear h
  go_enter Tryd.func41, Tryd.ntmps41
  go_upto_region 2 with fail
  generalize (w.setCell ⟨b, 1, none⟩ (.int .i64 1)).alloc (.cells #[.pointer (some ⟨b, 0, none⟩)] 66) = W at *
  generalize w.heap.size = Q at *
  have g0 := HRW.out.s0; have g1 := HRW.out.a1
  clear h0 h1 h2 hbl
  go_quiet (fail)
  generalize hWd : W.drewN nq = Wd at *
  have HRD : Hid (Rd Wd b s 1 0) := Lib.hid (by rw [← hWd]; exact HRW.out.drewN nq)
  have HGD : Hid (w.grownBy Wd (some b)) := Lib.hid (by rw [← hWd]; exact gb_trans HGW.out (gb_drewN _ _ _))
  have hqd : Wd.cell? ⟨Q, 0, none⟩ = some (.pointer (some ⟨b, 0, none⟩)) := by rw [← hWd]; exact hq
  clear hWd HRW HGW hq g0 g1
  go_wp2_with fail
  refine (CC.out _ HRD.out).mono ?_
  rintro e w3 ⟨rfl, hR3, hg3⟩
  have HR3 := Lib.hid hR3; have HG3 := Lib.hid (gb_trans HGD.out hg3)
  have hq3 := q_keep hg3 hqd hQ
  have a5 := hR3.e5
  clear hR3 hg3 hqd
  go_wp2
  go_ret
  exact ⟨_, k1, rfl, ⟨HR3.out, HG3.out⟩, fun h => absurd h (by simp), hk1⟩
set_option maxRecDepth 100000 in
set_option maxHeartbeats 4000000 in
theorem esc_let (s : ByteArray) (b : Nat) (w : World) (h : Rd w b s 0 0) (hk : 1 ≤ s.size) (hm : s.size ≤ 1000) (h1s : 1 < s.size) (hb : bad s 1 = false) (c : Nat) (hc : (Utf8.decode s 1).1 = c) (r : Int) (hcr : (c, r) ∈ [(97, (7 : Int)), (102, 12), (110, 10), (114, 13), (116, 9), (118, 11)]) :
    Calls Tryd.prog 41 #[.pointer (some ⟨b, 0, none⟩)] w (HexPost (esc s) s b w) := by
  have hA : esc s = (r, 1 + (Utf8.decode s 1).2, 0) := by
    unfold esc; rw [if_neg (by omega), if_neg (by simp [hb]), hc]
    simp at hcr
    rcases hcr with ⟨rfl, rfl⟩ | ⟨rfl, rfl⟩ | ⟨rfl, rfl⟩ | ⟨rfl, rfl⟩ | ⟨rfl, rfl⟩ | ⟨rfl, rfl⟩ <;> rfl
  rw [hA]
  clear hA
  have h0 := h.s0; have h1 := h.a1; have h2 := h.f1
  have hbl := h.lt
  have hQ : w.heap.size ≠ b := by omega
  have CF : Hid (∀ kd k' err w1, Rd w1 b s k' err → Calls Tryd.prog 59 #[.pointer (some ⟨b, 0, none⟩), .int .i64 kd] w1 fun e w' => e = .returned (.tuple #[]) ∧ Left w1 b s k' (if err = 0 then kd else err) w') := Lib.hid fun kd k' err w1 h => fail_c s b k' err w1 kd h
  have HRW : Hid (Rd ((w.setCell ⟨b, 1, none⟩ (.int .i64 1)).alloc (.cells #[.pointer (some ⟨b, 0, none⟩)] 66)) b s 1 0) := Lib.hid ((h.setAt 1).below ((Below.refl _ _).alloc (Nat.le_refl _) _))
  have HGW : Hid (w.grownBy ((w.setCell ⟨b, 1, none⟩ (.int .i64 1)).alloc (.cells #[.pointer (some ⟨b, 0, none⟩)] 66)) (some b)) := Lib.hid (gb_trans (gb_set _ _ _ _) (World.grownBy_alloc _ _ _))
  have hq : ((w.setCell ⟨b, 1, none⟩ (.int .i64 1)).alloc (.cells #[.pointer (some ⟨b, 0, none⟩)] 66)).cell? ⟨w.heap.size, 0, none⟩ = some (.pointer (some ⟨b, 0, none⟩)) := alloc_at _ _ _ (by simp [World.setCell])
  have hd : decide (s.size ≤ 1) = false := by simp; omega
  have hd2 : decide ((s.size : Int) ≤ 1) = false := by simp; omega
  have hfit := decode_fits s 1 h1s
  have hk1 := hfit.2
  have CC : Hid (∀ w1, Rd w1 b s 1 0 → Calls Tryd.prog 61 #[.pointer (some ⟨b, 0, none⟩)] w1 fun e w' => e = .returned (.int .i32 ((Utf8.decode s 1).1 : Nat)) ∧ Left w1 b s (1 + (Utf8.decode s 1).2) (if bad s 1 = true then 9 else 0) w') := Lib.hid fun w1 h => by
    have := char_c s b 1 0 w1 h h1s hm
    simpa using this
  rw [if_neg (by rw [hb]; exact Bool.false_ne_true), hc] at CC
  have HT := Lib.hid hk1
  generalize 1 + (Utf8.decode s 1).2 = k1 at *
  clear hfit h1s hb hc
  simp at hcr
  rcases hcr with ⟨rfl, rfl⟩ | ⟨rfl, rfl⟩ | ⟨rfl, rfl⟩ | ⟨rfl, rfl⟩ | ⟨rfl, rfl⟩ | ⟨rfl, rfl⟩
  all_goals
    clear h
    go_enter Tryd.func41, Tryd.ntmps41
    go_upto_region 2 with fail
    generalize (w.setCell ⟨b, 1, none⟩ (.int .i64 1)).alloc (.cells #[.pointer (some ⟨b, 0, none⟩)] 66) = W at *
    generalize w.heap.size = Q at *
    have g0 := HRW.out.s0; have g1 := HRW.out.a1
    clear h0 h1 h2 hbl
    go_quiet (fail)
    generalize hWd : W.drewN nq = Wd at *
    have HRD : Hid (Rd Wd b s 1 0) := Lib.hid (by rw [← hWd]; exact HRW.out.drewN nq)
    have HGD : Hid (w.grownBy Wd (some b)) := Lib.hid (by rw [← hWd]; exact gb_trans HGW.out (gb_drewN _ _ _))
    have hqd : Wd.cell? ⟨Q, 0, none⟩ = some (.pointer (some ⟨b, 0, none⟩)) := by rw [← hWd]; exact hq
    clear hWd HRW HGW hq g0 g1
    go_wp2_with fail
    refine (CC.out _ HRD.out).mono ?_
    rintro e w3 ⟨rfl, hR3, hg3⟩
    have HR3 := Lib.hid hR3; have HG3 := Lib.hid (gb_trans HGD.out hg3)
    have hq3 := q_keep hg3 hqd hQ
    have a5 := hR3.e5
    clear hR3 hg3 hqd
    go_wp2
    go_ret
    exact ⟨_, k1, rfl, ⟨HR3.out, HG3.out⟩, fun h => ⟨rfl, rfl⟩, hk1⟩
set_option maxRecDepth 100000 in
set_option maxHeartbeats 4000000 in
theorem esc_hex (s : ByteArray) (b : Nat) (w : World) (h : Rd w b s 0 0) (hk : 1 ≤ s.size) (hm : s.size ≤ 1000) (h1s : 1 < s.size) (hb : bad s 1 = false) (hc : (Utf8.decode s 1).1 = 120) :
    Calls Tryd.prog 41 #[.pointer (some ⟨b, 0, none⟩)] w (HexPost (esc s) s b w) := by
  have hA : esc s = hexE s (1 + (Utf8.decode s 1).2) := by
    unfold esc escC
    rw [if_neg (by omega), if_neg (by rw [hb]; simp), hc, if_neg (by rintro (h | h); exact absurd h (by decide); exact absurd h.2.1 (by decide)), if_pos rfl]
  rw [hA]
  clear hA
  have h0 := h.s0; have h1 := h.a1; have h2 := h.f1
  have hbl := h.lt
  have hQ : w.heap.size ≠ b := by omega
  have CF : Hid (∀ kd k' err w1, Rd w1 b s k' err → Calls Tryd.prog 59 #[.pointer (some ⟨b, 0, none⟩), .int .i64 kd] w1 fun e w' => e = .returned (.tuple #[]) ∧ Left w1 b s k' (if err = 0 then kd else err) w') := Lib.hid fun kd k' err w1 h => fail_c s b k' err w1 kd h
  have HRW : Hid (Rd ((w.setCell ⟨b, 1, none⟩ (.int .i64 1)).alloc (.cells #[.pointer (some ⟨b, 0, none⟩)] 66)) b s 1 0) := Lib.hid ((h.setAt 1).below ((Below.refl _ _).alloc (Nat.le_refl _) _))
  have HGW : Hid (w.grownBy ((w.setCell ⟨b, 1, none⟩ (.int .i64 1)).alloc (.cells #[.pointer (some ⟨b, 0, none⟩)] 66)) (some b)) := Lib.hid (gb_trans (gb_set _ _ _ _) (World.grownBy_alloc _ _ _))
  have hq : ((w.setCell ⟨b, 1, none⟩ (.int .i64 1)).alloc (.cells #[.pointer (some ⟨b, 0, none⟩)] 66)).cell? ⟨w.heap.size, 0, none⟩ = some (.pointer (some ⟨b, 0, none⟩)) := alloc_at _ _ _ (by simp [World.setCell])
  have hd : decide (s.size ≤ 1) = false := by simp; omega
  have hd2 : decide ((s.size : Int) ≤ 1) = false := by simp; omega
  have hfit := decode_fits s 1 h1s
  have hk1 := hfit.2
  have CC : Hid (∀ w1, Rd w1 b s 1 0 → Calls Tryd.prog 61 #[.pointer (some ⟨b, 0, none⟩)] w1 fun e w' => e = .returned (.int .i32 ((Utf8.decode s 1).1 : Nat)) ∧ Left w1 b s (1 + (Utf8.decode s 1).2) (if bad s 1 = true then 9 else 0) w') := Lib.hid fun w1 h => by
    have := char_c s b 1 0 w1 h h1s hm
    simpa using this
  rw [if_neg (by rw [hb]; exact Bool.false_ne_true), hc] at CC
  have HT := Lib.hid hk1
  have CH : Hid (∀ w1, Rd w1 b s (1 + (Utf8.decode s 1).2) 0 → Calls Tryd.prog 62 #[.pointer (some ⟨b, 0, none⟩)] w1 (HexPost (hexE s (1 + (Utf8.decode s 1).2)) s b w1)) := Lib.hid fun w1 h => hex_c s b _ w1 h hk1 hm
  generalize 1 + (Utf8.decode s 1).2 = k1 at *
  generalize hexE s k1 = A at *
  clear hfit h1s hb hc
  clear h
  go_enter Tryd.func41, Tryd.ntmps41
  go_upto_region 2 with fail
  generalize (w.setCell ⟨b, 1, none⟩ (.int .i64 1)).alloc (.cells #[.pointer (some ⟨b, 0, none⟩)] 66) = W at *
  generalize w.heap.size = Q at *
  have g0 := HRW.out.s0; have g1 := HRW.out.a1
  clear h0 h1 h2 hbl
  go_quiet (fail)
  generalize hWd : W.drewN nq = Wd at *
  have HRD : Hid (Rd Wd b s 1 0) := Lib.hid (by rw [← hWd]; exact HRW.out.drewN nq)
  have HGD : Hid (w.grownBy Wd (some b)) := Lib.hid (by rw [← hWd]; exact gb_trans HGW.out (gb_drewN _ _ _))
  have hqd : Wd.cell? ⟨Q, 0, none⟩ = some (.pointer (some ⟨b, 0, none⟩)) := by rw [← hWd]; exact hq
  clear hWd HRW HGW hq g0 g1
  go_wp2_with fail
  refine (CC.out _ HRD.out).mono ?_
  rintro e w3 ⟨rfl, hR3, hg3⟩
  have HR3 := Lib.hid hR3; have HG3 := Lib.hid (gb_trans HGD.out hg3)
  have hq3 := q_keep hg3 hqd hQ
  have a5 := hR3.e5
  clear hR3 hg3 hqd
  go_wp2_with fail
  refine (CH.out _ HR3.out).mono ?_
  rintro e w4 ⟨r, k', rfl, ⟨hR4, hg4⟩, hv, hk'⟩
  have HR4 := Lib.hid hR4; have HG4 := Lib.hid (gb_trans HG3.out hg4); have HV := Lib.hid hv
  clear hR4 hg4 hv
  go_wp2
  go_ret
  exact ⟨_, k', rfl, ⟨HR4.out, HG4.out⟩, HV.out, hk'⟩
set_option maxRecDepth 100000 in
set_option maxHeartbeats 4000000 in
theorem esc_hi (s : ByteArray) (b : Nat) (w : World) (h : Rd w b s 0 0) (hk : 1 ≤ s.size) (hm : s.size ≤ 1000) (h1s : 1 < s.size) (hb : bad s 1 = false) (c : Nat) (hc : (Utf8.decode s 1).1 = c) (hne : ∀ x ∈ [48, 120, 97, 102, 110, 114, 116, 118], c ≠ x) (h128 : 128 ≤ c) :
    Calls Tryd.prog 41 #[.pointer (some ⟨b, 0, none⟩)] w (HexPost (esc s) s b w) := by
  have hA : esc s = (0, 0, 4) := by
    unfold esc escC
    rw [if_neg (by omega), if_neg (by rw [hb]; simp), hc]
    simp only [List.mem_cons, List.not_mem_nil, or_false, forall_eq_or_imp, forall_eq] at hne
    rw [if_neg (by omega), if_neg (by omega), if_neg (by omega), if_neg (by omega), if_neg (by omega), if_neg (by omega), if_neg (by omega), if_neg (by omega), if_neg (by omega)]
  rw [hA]
  clear hA
  have h0 := h.s0; have h1 := h.a1; have h2 := h.f1
  have hbl := h.lt
  have hQ : w.heap.size ≠ b := by omega
  have CF : Hid (∀ kd k' err w1, Rd w1 b s k' err → Calls Tryd.prog 59 #[.pointer (some ⟨b, 0, none⟩), .int .i64 kd] w1 fun e w' => e = .returned (.tuple #[]) ∧ Left w1 b s k' (if err = 0 then kd else err) w') := Lib.hid fun kd k' err w1 h => fail_c s b k' err w1 kd h
  have HRW : Hid (Rd ((w.setCell ⟨b, 1, none⟩ (.int .i64 1)).alloc (.cells #[.pointer (some ⟨b, 0, none⟩)] 66)) b s 1 0) := Lib.hid ((h.setAt 1).below ((Below.refl _ _).alloc (Nat.le_refl _) _))
  have HGW : Hid (w.grownBy ((w.setCell ⟨b, 1, none⟩ (.int .i64 1)).alloc (.cells #[.pointer (some ⟨b, 0, none⟩)] 66)) (some b)) := Lib.hid (gb_trans (gb_set _ _ _ _) (World.grownBy_alloc _ _ _))
  have hq : ((w.setCell ⟨b, 1, none⟩ (.int .i64 1)).alloc (.cells #[.pointer (some ⟨b, 0, none⟩)] 66)).cell? ⟨w.heap.size, 0, none⟩ = some (.pointer (some ⟨b, 0, none⟩)) := alloc_at _ _ _ (by simp [World.setCell])
  have hd : decide (s.size ≤ 1) = false := by simp; omega
  have hd2 : decide ((s.size : Int) ≤ 1) = false := by simp; omega
  have hfit := decode_fits s 1 h1s
  have hk1 := hfit.2
  have CC : Hid (∀ w1, Rd w1 b s 1 0 → Calls Tryd.prog 61 #[.pointer (some ⟨b, 0, none⟩)] w1 fun e w' => e = .returned (.int .i32 ((Utf8.decode s 1).1 : Nat)) ∧ Left w1 b s (1 + (Utf8.decode s 1).2) (if bad s 1 = true then 9 else 0) w') := Lib.hid fun w1 h => by
    have := char_c s b 1 0 w1 h h1s hm
    simpa using this
  rw [if_neg (by rw [hb]; exact Bool.false_ne_true), hc] at CC
  have HT := Lib.hid hk1
  have f48 : ((c : Int) == 48) = false := by rw [beq_eq_false_iff_ne]; intro h; exact hne 48 (by simp) (by omega)
  have f120 : ((c : Int) == 120) = false := by rw [beq_eq_false_iff_ne]; intro h; exact hne 120 (by simp) (by omega)
  have f97 : ((c : Int) == 97) = false := by rw [beq_eq_false_iff_ne]; intro h; exact hne 97 (by simp) (by omega)
  have f102 : ((c : Int) == 102) = false := by rw [beq_eq_false_iff_ne]; intro h; exact hne 102 (by simp) (by omega)
  have f110 : ((c : Int) == 110) = false := by rw [beq_eq_false_iff_ne]; intro h; exact hne 110 (by simp) (by omega)
  have f114 : ((c : Int) == 114) = false := by rw [beq_eq_false_iff_ne]; intro h; exact hne 114 (by simp) (by omega)
  have f116 : ((c : Int) == 116) = false := by rw [beq_eq_false_iff_ne]; intro h; exact hne 116 (by simp) (by omega)
  have f118 : ((c : Int) == 118) = false := by rw [beq_eq_false_iff_ne]; intro h; exact hne 118 (by simp) (by omega)
  have d1 : decide ((49 : Int) ≤ (c : Int)) = true := by simp; omega
  have d2 : decide ((c : Int) ≤ 55) = false := by simp; omega
  have d3 : decide ((c : Int) < 128) = false := by simp; omega
  generalize 1 + (Utf8.decode s 1).2 = k1 at *
  clear hfit h1s hb hc hne h128
  clear h
  go_enter Tryd.func41, Tryd.ntmps41
  go_upto_region 2 with fail
  generalize (w.setCell ⟨b, 1, none⟩ (.int .i64 1)).alloc (.cells #[.pointer (some ⟨b, 0, none⟩)] 66) = W at *
  generalize w.heap.size = Q at *
  have g0 := HRW.out.s0; have g1 := HRW.out.a1
  clear h0 h1 h2 hbl
  go_quiet (fail)
  generalize hWd : W.drewN nq = Wd at *
  have HRD : Hid (Rd Wd b s 1 0) := Lib.hid (by rw [← hWd]; exact HRW.out.drewN nq)
  have HGD : Hid (w.grownBy Wd (some b)) := Lib.hid (by rw [← hWd]; exact gb_trans HGW.out (gb_drewN _ _ _))
  have hqd : Wd.cell? ⟨Q, 0, none⟩ = some (.pointer (some ⟨b, 0, none⟩)) := by rw [← hWd]; exact hq
  clear hWd HRW HGW hq g0 g1
  go_wp2_with fail
  refine (CC.out _ HRD.out).mono ?_
  rintro e w3 ⟨rfl, hR3, hg3⟩
  have HR3 := Lib.hid hR3; have HG3 := Lib.hid (gb_trans HGD.out hg3)
  have hq3 := q_keep hg3 hqd hQ
  have a5 := hR3.e5
  clear hR3 hg3 hqd
  go_wp2_with fail
  refine (CF.out _ _ _ _ HR3.out).mono ?_
  rintro e w5 ⟨rfl, hR5, hg5⟩
  have HR5 := Lib.hid hR5; have HG5 := Lib.hid (gb_trans HG3.out hg5); clear hR5 hg5
  go_wp2
  go_ret
  exact ⟨_, k1, rfl, ⟨HR5.out, HG5.out⟩, fun h => absurd h (by simp), hk1⟩
set_option maxRecDepth 100000 in
set_option maxHeartbeats 4000000 in
theorem esc_lo (s : ByteArray) (b : Nat) (w : World) (h : Rd w b s 0 0) (hk : 1 ≤ s.size) (hm : s.size ≤ 1000) (h1s : 1 < s.size) (hb : bad s 1 = false) (c : Nat) (hc : (Utf8.decode s 1).1 = c) (hne : ∀ x ∈ [48, 120, 97, 102, 110, 114, 116, 118], c ≠ x) (h128 : c < 128) (h8 : ¬ (49 ≤ c ∧ c ≤ 55)) :
    Calls Tryd.prog 41 #[.pointer (some ⟨b, 0, none⟩)] w (HexPost (esc s) s b w) := by
  have hA : esc s = if alnum c = false then ((c : Int), 1 + (Utf8.decode s 1).2, (0 : Int)) else (0, 0, 4) := by
    unfold esc escC
    rw [if_neg (by omega), if_neg (by rw [hb]; simp), hc]
    simp only [List.mem_cons, List.not_mem_nil, or_false, forall_eq_or_imp, forall_eq] at hne
    rw [if_neg (by omega), if_neg (by omega), if_neg (by omega), if_neg (by omega), if_neg (by omega), if_neg (by omega), if_neg (by omega), if_neg (by omega)]
    by_cases ha : alnum c = false
    · rw [if_pos ha, if_pos ⟨h128, ha⟩]
    · rw [if_neg ha, if_neg (fun h => ha h.2)]
  rw [hA]
  clear hA
  have h0 := h.s0; have h1 := h.a1; have h2 := h.f1
  have hbl := h.lt
  have hQ : w.heap.size ≠ b := by omega
  have CF : Hid (∀ kd k' err w1, Rd w1 b s k' err → Calls Tryd.prog 59 #[.pointer (some ⟨b, 0, none⟩), .int .i64 kd] w1 fun e w' => e = .returned (.tuple #[]) ∧ Left w1 b s k' (if err = 0 then kd else err) w') := Lib.hid fun kd k' err w1 h => fail_c s b k' err w1 kd h
  have HRW : Hid (Rd ((w.setCell ⟨b, 1, none⟩ (.int .i64 1)).alloc (.cells #[.pointer (some ⟨b, 0, none⟩)] 66)) b s 1 0) := Lib.hid ((h.setAt 1).below ((Below.refl _ _).alloc (Nat.le_refl _) _))
  have HGW : Hid (w.grownBy ((w.setCell ⟨b, 1, none⟩ (.int .i64 1)).alloc (.cells #[.pointer (some ⟨b, 0, none⟩)] 66)) (some b)) := Lib.hid (gb_trans (gb_set _ _ _ _) (World.grownBy_alloc _ _ _))
  have hq : ((w.setCell ⟨b, 1, none⟩ (.int .i64 1)).alloc (.cells #[.pointer (some ⟨b, 0, none⟩)] 66)).cell? ⟨w.heap.size, 0, none⟩ = some (.pointer (some ⟨b, 0, none⟩)) := alloc_at _ _ _ (by simp [World.setCell])
  have hd : decide (s.size ≤ 1) = false := by simp; omega
  have hd2 : decide ((s.size : Int) ≤ 1) = false := by simp; omega
  have hfit := decode_fits s 1 h1s
  have hk1 := hfit.2
  have CC : Hid (∀ w1, Rd w1 b s 1 0 → Calls Tryd.prog 61 #[.pointer (some ⟨b, 0, none⟩)] w1 fun e w' => e = .returned (.int .i32 ((Utf8.decode s 1).1 : Nat)) ∧ Left w1 b s (1 + (Utf8.decode s 1).2) (if bad s 1 = true then 9 else 0) w') := Lib.hid fun w1 h => by
    have := char_c s b 1 0 w1 h h1s hm
    simpa using this
  rw [if_neg (by rw [hb]; exact Bool.false_ne_true), hc] at CC
  have HT := Lib.hid hk1
  have f48 : ((c : Int) == 48) = false := by rw [beq_eq_false_iff_ne]; intro h; exact hne 48 (by simp) (by omega)
  have f120 : ((c : Int) == 120) = false := by rw [beq_eq_false_iff_ne]; intro h; exact hne 120 (by simp) (by omega)
  have f97 : ((c : Int) == 97) = false := by rw [beq_eq_false_iff_ne]; intro h; exact hne 97 (by simp) (by omega)
  have f102 : ((c : Int) == 102) = false := by rw [beq_eq_false_iff_ne]; intro h; exact hne 102 (by simp) (by omega)
  have f110 : ((c : Int) == 110) = false := by rw [beq_eq_false_iff_ne]; intro h; exact hne 110 (by simp) (by omega)
  have f114 : ((c : Int) == 114) = false := by rw [beq_eq_false_iff_ne]; intro h; exact hne 114 (by simp) (by omega)
  have f116 : ((c : Int) == 116) = false := by rw [beq_eq_false_iff_ne]; intro h; exact hne 116 (by simp) (by omega)
  have f118 : ((c : Int) == 118) = false := by rw [beq_eq_false_iff_ne]; intro h; exact hne 118 (by simp) (by omega)
  have d3 : decide ((c : Int) < 128) = true := by simp; omega
  have CA : Hid (∀ w1, Calls Tryd.prog 63 #[.int .u8 ((c : Int) % 256)] w1 fun e w' => e = .returned (.bool (alnum c)) ∧ w1 = w') := Lib.hid fun w1 => by
    rw [show ((c : Int) % 256) = (c : Int) by omega]
    exact syalnum_c c w1 h128
  have hcase : decide ((49 : Int) ≤ (c : Int)) = false ∨ (decide ((49 : Int) ≤ (c : Int)) = true ∧ decide ((c : Int) ≤ 55) = false) := by
    simp; omega
  generalize 1 + (Utf8.decode s 1).2 = k1 at *
  generalize hal : alnum c = al at *
  clear hfit h1s hb hc hne h128 h8 hal
  clear h
  cases al
  all_goals rcases hcase with d1 | ⟨d1, d2⟩
  all_goals
    go_enter Tryd.func41, Tryd.ntmps41
    go_upto_region 2 with fail
    generalize (w.setCell ⟨b, 1, none⟩ (.int .i64 1)).alloc (.cells #[.pointer (some ⟨b, 0, none⟩)] 66) = W at *
    generalize w.heap.size = Q at *
    have g0 := HRW.out.s0; have g1 := HRW.out.a1
    clear h0 h1 h2 hbl
    go_quiet (fail)
    generalize hWd : W.drewN nq = Wd at *
    have HRD : Hid (Rd Wd b s 1 0) := Lib.hid (by rw [← hWd]; exact HRW.out.drewN nq)
    have HGD : Hid (w.grownBy Wd (some b)) := Lib.hid (by rw [← hWd]; exact gb_trans HGW.out (gb_drewN _ _ _))
    have hqd : Wd.cell? ⟨Q, 0, none⟩ = some (.pointer (some ⟨b, 0, none⟩)) := by rw [← hWd]; exact hq
    clear hWd HRW HGW hq g0 g1
    go_wp2_with fail
    refine (CC.out _ HRD.out).mono ?_
    rintro e w3 ⟨rfl, hR3, hg3⟩
    have HR3 := Lib.hid hR3; have HG3 := Lib.hid (gb_trans HGD.out hg3)
    have hq3 := q_keep hg3 hqd hQ
    have a5 := hR3.e5
    clear hR3 hg3 hqd
    go_wp2_with (first
      | (go_at_call 63; refine (CA.out _).mono ?_; rintro e w4 ⟨rfl, rfl⟩)
      | (go_at_call 59; refine (CF.out _ _ _ _ HR3.out).mono ?_; rintro e w5 ⟨rfl, hR5, hg5⟩; have HR5 := Lib.hid hR5; have HG5 := Lib.hid (gb_trans HG3.out hg5); clear hR5 hg5))
    go_ret
    first
      | exact ⟨_, k1, rfl, ⟨HR3.out, HG3.out⟩, fun h => ⟨rfl, rfl⟩, hk1⟩
      | exact ⟨_, k1, rfl, ⟨HR5.out, HG5.out⟩, fun h => absurd h (by simp), hk1⟩
end Go.Proofs.YtholpemmakdglaaDoor.Esc
