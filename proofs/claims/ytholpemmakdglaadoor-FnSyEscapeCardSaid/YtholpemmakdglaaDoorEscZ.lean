/- The reference's reader of an escape: octal digits. -/
import Derived.Test.YtholpemmakdglaaDoorEscY
namespace Go.Proofs.YtholpemmakdglaaDoor.Esc
open Go.RowKit Go.Lib Tx
set_option linter.unusedVariables false
set_option maxRecDepth 100000 in
set_option maxHeartbeats 4000000 in
theorem esc_octno (s : ByteArray) (b : Nat) (w : World) (h : Rd w b s 0 0) (hk : 1 ≤ s.size) (hm : s.size ≤ 1000) (h1s : 1 < s.size) (hb : bad s 1 = false) (c : Nat) (hc : (Utf8.decode s 1).1 = c) (hcc : 49 ≤ c ∧ c ≤ 55) (ho : octal s (1 + (Utf8.decode s 1).2) = false) :
    Calls Tryd.prog 41 #[.pointer (some ⟨b, 0, none⟩)] w (HexPost (esc s) s b w) := by
  have hA : esc s = (0, 0, 4) := by
    unfold esc escC
    rw [if_neg (by omega), if_neg (by rw [hb]; simp), hc, ho]
    have ha : alnum c = true := by simp [alnum]; omega
    rw [if_neg (by rintro (h | h); omega; exact absurd h.2.2 (by simp)), if_neg (by omega), if_neg (by omega), if_neg (by omega), if_neg (by omega), if_neg (by omega), if_neg (by omega), if_neg (by omega), if_neg (by rw [ha]; simp)]
  rw [hA]
  clear hA
  have h0 := h.s0; have h1 := h.a1; have h2 := h.f1
  have hbl := h.lt
  have hQ : w.heap.size ≠ b := by omega
  have CF : Hid (∀ kd k' err w1, Rd w1 b s k' err → Calls Tryd.prog 59 #[.pointer (some ⟨b, 0, none⟩), .int .i64 kd] w1 fun e w' => e = .returned (.tuple #[]) ∧ Left w1 b s k' (if err = 0 then kd else err) w') := Lib.hid fun kd k' err w1 h => fail_c s b k' err w1 kd h
  have HRW : Hid (Rd ((w.setCell ⟨b, 1, none⟩ (.int .i64 1)).alloc (.cells #[.pointer (some ⟨b, 0, none⟩)] 66)) b s 1 0) := Lib.hid ((h.setAt 1).below ((Below.refl _ _).alloc (Nat.le_refl _) _))
  have HGW : Hid (w.grownBy ((w.setCell ⟨b, 1, none⟩ (.int .i64 1)).alloc (.cells #[.pointer (some ⟨b, 0, none⟩)] 66)) (some b)) := Lib.hid (gb_trans (gb_set _ _ _ _) (World.grownBy_alloc _ _ _))
  have hq : ((w.setCell ⟨b, 1, none⟩ (.int .i64 1)).alloc (.cells #[.pointer (some ⟨b, 0, none⟩)] 66)).cell? ⟨w.heap.size, 0, none⟩ = some (.pointer (some ⟨b, 0, none⟩)) := alloc_at _ _ _ (by simp [World.setCell])
  have hd : decide (s.size ≤ 1) = false := by simp; omega
  have hd2 : decide ((s.size : Int) ≤ 1) = false := by simp; omega
  have hfit := decode_fits s 1 h1s
  have hk1 := hfit.2
  have CC : Hid (∀ w1, Rd w1 b s 1 0 → Calls Tryd.prog 61 #[.pointer (some ⟨b, 0, none⟩)] w1 fun e w' => e = .returned (.int .i32 ((Utf8.decode s 1).1 : Nat)) ∧ Left w1 b s (1 + (Utf8.decode s 1).2) (if bad s 1 = true then 9 else 0) w') := Lib.hid fun w1 h => by
    have := char_c s b 1 0 w1 h h1s hm
    simpa using this
  rw [if_neg (by rw [hb]; exact Bool.false_ne_true), hc] at CC
  have HT := Lib.hid hk1
  have CO : Hid (∀ q kk err w1, Rd w1 b s kk err → w1.cell? ⟨q, 0, none⟩ = some (.pointer (some ⟨b, 0, none⟩)) → kk ≤ s.size → Calls Tryd.prog 60 #[.pointer (some ⟨q, 0, none⟩)] w1 fun e w' => e = .returned (.bool (octal s kk)) ∧ ∃ n, w' = w1.drewN n) := Lib.hid fun q kk err w1 h hq hk => octal_c s q b kk err w1 h hq hk hm
  have f48 : ((c : Int) == 48) = false := by rw [beq_eq_false_iff_ne]; omega
  have f120 : ((c : Int) == 120) = false := by rw [beq_eq_false_iff_ne]; omega
  have f97 : ((c : Int) == 97) = false := by rw [beq_eq_false_iff_ne]; omega
  have f102 : ((c : Int) == 102) = false := by rw [beq_eq_false_iff_ne]; omega
  have f110 : ((c : Int) == 110) = false := by rw [beq_eq_false_iff_ne]; omega
  have f114 : ((c : Int) == 114) = false := by rw [beq_eq_false_iff_ne]; omega
  have f116 : ((c : Int) == 116) = false := by rw [beq_eq_false_iff_ne]; omega
  have f118 : ((c : Int) == 118) = false := by rw [beq_eq_false_iff_ne]; omega
  have d1 : decide ((49 : Int) ≤ (c : Int)) = true := by simp; omega
  have d2 : decide ((c : Int) ≤ 55) = true := by simp; omega
  have d3 : decide ((c : Int) < 128) = true := by simp; omega
  have ha : alnum c = true := by simp [alnum]; omega
  have CA : Hid (∀ w1, Calls Tryd.prog 63 #[.int .u8 ((c : Int) % 256)] w1 fun e w' => e = .returned (.bool true) ∧ w1 = w') := Lib.hid fun w1 => by
    rw [show ((c : Int) % 256) = (c : Int) by omega, ← ha]
    exact syalnum_c c w1 (by omega)
  generalize 1 + (Utf8.decode s 1).2 = k1 at *
  have HO := Lib.hid ho
  clear hfit h1s hb hc hcc ho ha
  clear h
  go_enter Tryd.func41, Tryd.ntmps41
  go_upto_region 2 with fail
  generalize (w.setCell ⟨b, 1, none⟩ (.int .i64 1)).alloc (.cells #[.pointer (some ⟨b, 0, none⟩)] 66) = W at *
  generalize w.heap.size = Q at *
  have g0 := HRW.out.s0; have g1 := HRW.out.a1
  clear h0 h1 h2 hbl
  go_quiet (fail)
  generalize hWd : W.drewN nq = Wd at *
  have HRD : Hid (Rd Wd b s 1 0) := Lib.hid (by rw [← hWd]; exact HRW.out.drewN nq)
  have HGD : Hid (w.grownBy Wd (some b)) := Lib.hid (by rw [← hWd]; exact gb_trans HGW.out (gb_drewN _ _ _))
  have hqd : Wd.cell? ⟨Q, 0, none⟩ = some (.pointer (some ⟨b, 0, none⟩)) := by rw [← hWd]; exact hq
  clear hWd HRW HGW hq g0 g1
  go_wp2_with fail
  refine (CC.out _ HRD.out).mono ?_
  rintro e w3 ⟨rfl, hR3, hg3⟩
  have HR3 := Lib.hid hR3; have HG3 := Lib.hid (gb_trans HGD.out hg3)
  have hq3 := q_keep hg3 hqd hQ
  have a5 := hR3.e5
  clear hR3 hg3 hqd
  go_wp2_with fail
  refine (CO.out Q k1 0 _ HR3.out hq3 hk1).mono ?_
  rintro e w4 ⟨rfl, n4, rfl⟩
  rw [HO.out]
  go_wp2_with (first
    | (go_at_call 63; refine (CA.out _).mono ?_; rintro e w5 ⟨rfl, rfl⟩)
    | (go_at_call 59; refine (CF.out _ _ _ _ (HR3.out.drewN n4)).mono ?_; rintro e w5 ⟨rfl, hR5, hg5⟩; have HR5 := Lib.hid hR5; have HG5 := Lib.hid (gb_trans (gb_trans HG3.out (gb_drewN _ n4 _)) hg5); clear hR5 hg5))
  go_ret
  exact ⟨_, k1, rfl, ⟨HR5.out, HG5.out⟩, fun h => absurd h (by simp), hk1⟩
set_option maxRecDepth 100000 in
set_option maxHeartbeats 4000000 in
theorem esc_oct (s : ByteArray) (b : Nat) (w : World) (h : Rd w b s 0 0) (hk : 1 ≤ s.size) (hm : s.size ≤ 1000) (h1s : 1 < s.size) (hb : bad s 1 = false) (c : Nat) (hc : (Utf8.decode s 1).1 = c) (hcc : 48 ≤ c ∧ c ≤ 55) (ho : c = 48 ∨ octal s (1 + (Utf8.decode s 1).2) = true) :
    Calls Tryd.prog 41 #[.pointer (some ⟨b, 0, none⟩)] w (HexPost (esc s) s b w) := by
  have hA : esc s = oct s 2 (1 + (Utf8.decode s 1).2) (c - 48) := by
    unfold esc escC
    rw [if_neg (by omega), if_neg (by simp [hb]), hc]
    rw [if_pos]
    rcases ho with h | h
    · exact Or.inl h
    · by_cases h48 : c = 48
      · exact Or.inl h48
      · exact Or.inr ⟨by omega, hcc.2, h⟩
  rw [hA]
  clear hA
  obtain ⟨A, hA⟩ : ∃ A, oct s 2 (1 + (Utf8.decode s 1).2) ((c : Int) - 48) = A := ⟨_, rfl⟩
  rw [hA]
  have HA := Lib.hid hA; clear hA
  have HP : Hid (∀ e w', (∃ (r : Int) (k' : Nat), e = .returned (.int .i32 r) ∧ Left w b s k' A.2.2 w' ∧ (A.2.2 = 0 → r = A.1 ∧ k' = A.2.1) ∧ k' ≤ s.size) → HexPost A s b w e w') := Lib.hid fun e w' h => h
  have h0 := h.s0; have h1 := h.a1; have h2 := h.f1
  have hbl := h.lt
  have hQ : w.heap.size ≠ b := by omega
  have CF : Hid (∀ kd k' err w1, Rd w1 b s k' err → Calls Tryd.prog 59 #[.pointer (some ⟨b, 0, none⟩), .int .i64 kd] w1 fun e w' => e = .returned (.tuple #[]) ∧ Left w1 b s k' (if err = 0 then kd else err) w') := Lib.hid fun kd k' err w1 h => fail_c s b k' err w1 kd h
  have HRW : Hid (Rd ((w.setCell ⟨b, 1, none⟩ (.int .i64 1)).alloc (.cells #[.pointer (some ⟨b, 0, none⟩)] 66)) b s 1 0) := Lib.hid ((h.setAt 1).below ((Below.refl _ _).alloc (Nat.le_refl _) _))
  have HGW : Hid (w.grownBy ((w.setCell ⟨b, 1, none⟩ (.int .i64 1)).alloc (.cells #[.pointer (some ⟨b, 0, none⟩)] 66)) (some b)) := Lib.hid (gb_trans (gb_set _ _ _ _) (World.grownBy_alloc _ _ _))
  have hq : ((w.setCell ⟨b, 1, none⟩ (.int .i64 1)).alloc (.cells #[.pointer (some ⟨b, 0, none⟩)] 66)).cell? ⟨w.heap.size, 0, none⟩ = some (.pointer (some ⟨b, 0, none⟩)) := alloc_at _ _ _ (by simp [World.setCell])
  have hd : decide (s.size ≤ 1) = false := by simp; omega
  have hd2 : decide ((s.size : Int) ≤ 1) = false := by simp; omega
  have hfit := decode_fits s 1 h1s
  have hk1 := hfit.2
  have CC : Hid (∀ w1, Rd w1 b s 1 0 → Calls Tryd.prog 61 #[.pointer (some ⟨b, 0, none⟩)] w1 fun e w' => e = .returned (.int .i32 ((Utf8.decode s 1).1 : Nat)) ∧ Left w1 b s (1 + (Utf8.decode s 1).2) (if bad s 1 = true then 9 else 0) w') := Lib.hid fun w1 h => by
    have := char_c s b 1 0 w1 h h1s hm
    simpa using this
  rw [if_neg (by rw [hb]; exact Bool.false_ne_true), hc] at CC
  have HT := Lib.hid hk1
  have CO : Hid (∀ q kk err w1, Rd w1 b s kk err → w1.cell? ⟨q, 0, none⟩ = some (.pointer (some ⟨b, 0, none⟩)) → kk ≤ s.size → Calls Tryd.prog 60 #[.pointer (some ⟨q, 0, none⟩)] w1 fun e w' => e = .returned (.bool (octal s kk)) ∧ ∃ n, w' = w1.drewN n) := Lib.hid fun q kk err w1 h hq hk => octal_c s q b kk err w1 h hq hk hm
  have d3 : decide ((c : Int) < 128) = true := by simp; omega
  generalize 1 + (Utf8.decode s 1).2 = k1 at *
  have hcase : ((c : Int) == 48) = true ∨ (((c : Int) == 48) = false ∧ octal s k1 = true) := by
    rcases ho with h | h
    · exact Or.inl (by rw [h]; rfl)
    · by_cases h48 : c = 48
      · exact Or.inl (by rw [h48]; rfl)
      · exact Or.inr ⟨by rw [beq_eq_false_iff_ne]; omega, h⟩
  have d1 : ((c : Int) == 48) = false → decide ((49 : Int) ≤ (c : Int)) = true := fun h => by have := ne_of_beq_false h; simp; omega
  have d2 : decide ((c : Int) ≤ 55) = true := by simp; omega
  have D1 := Lib.hid d1
  have hc7 : (c : Int) ≤ 55 := by omega
  have hc8 : (48 : Int) ≤ (c : Int) := by omega
  clear hfit h1s hb hc hcc ho d1
  clear h
  go_enter Tryd.func41, Tryd.ntmps41
  go_upto_region 2 with fail
  generalize (w.setCell ⟨b, 1, none⟩ (.int .i64 1)).alloc (.cells #[.pointer (some ⟨b, 0, none⟩)] 66) = W at *
  generalize w.heap.size = Q at *
  have g0 := HRW.out.s0; have g1 := HRW.out.a1
  clear h0 h1 h2 hbl
  go_quiet (fail)
  generalize hWd : W.drewN nq = Wd at *
  have HRD : Hid (Rd Wd b s 1 0) := Lib.hid (by rw [← hWd]; exact HRW.out.drewN nq)
  have HGD : Hid (w.grownBy Wd (some b)) := Lib.hid (by rw [← hWd]; exact gb_trans HGW.out (gb_drewN _ _ _))
  have hqd : Wd.cell? ⟨Q, 0, none⟩ = some (.pointer (some ⟨b, 0, none⟩)) := by rw [← hWd]; exact hq
  clear hWd HRW HGW hq g0 g1
  go_wp2_with fail
  refine (CC.out _ HRD.out).mono ?_
  rintro e w3 ⟨rfl, hR3, hg3⟩
  have HR3 := Lib.hid hR3; have HG3 := Lib.hid (gb_trans HGD.out hg3)
  have hq3 := q_keep hg3 hqd hQ
  have a5 := hR3.e5
  clear hR3 hg3 hqd
  rcases hcase with f1 | ⟨f1, f2⟩
  · go_wp2_with fail
    have HRZ := Lib.hid HR3.out; have HGZ := Lib.hid HG3.out; have hqz := hq3
    go_loopg [5, 6] 3 (fun g s5 s6 wx => ∃ (j kk : Nat) (r : Int), s5 = .int .i32 r ∧ s6 = .int .i64 j ∧ j ≤ 2 ∧ Rd wx b s kk 0 ∧ wx.cell? ⟨Q, 0, none⟩ = some (.pointer (some ⟨b, 0, none⟩)) ∧ w.grownBy wx (some b) ∧ kk ≤ s.size ∧ 0 ≤ r ∧ r ≤ 511 ∧ ((j = 0 → r ≤ 7) ∧ (j ≤ 1 → r ≤ 63)) ∧ 2 - j < g ∧ oct s (2 - j) kk r = A)
    case atStart => exact ⟨0, k1, _, rfl, rfl, by omega, HRZ.out, hqz, HGZ.out, hk1, by omega, by omega, ⟨by omega, by omega⟩, by omega, HA.out⟩
    case round =>
      obtain ⟨j, kk, r, rfl, rfl, hj, hR, hq5, hgw, hkk, hr0, hr1, hr2, hg, hn⟩ := hrel
      obtain ⟨g', rfl⟩ : ∃ g', gk = g' + 1 := ⟨gk - 1, by omega⟩
      have HR := Lib.hid hR; have HG := Lib.hid hgw; have HR2 := Lib.hid hr2
      have z0 := hR.s0; have z1 := hR.a1; have zf := hR.f1
      clear hR hgw hr2
      by_cases hj2 : j < 2
      · rw [show 2 - j = (1 - j) + 1 by omega] at hn
        simp only [oct] at hn
        cases ho : octal s kk
        · rw [ho, if_neg Bool.false_ne_true] at hn
          have HN := Lib.hid hn; have HO := Lib.hid ho
          clear hn ho
          go_wp2_with (go_at_call 60; refine (CO.out Q kk 0 _ HR.out hq5 hkk).mono ?_; rintro e w5 ⟨rfl, n5, rfl⟩; rw [HO.out])
          go_ret
          refine HP.out _ _ ⟨_, kk, rfl, ?_⟩
          rw [← HN.out]
          exact ⟨⟨HR.out.drewN _, gb_trans HG.out (gb_drewN _ _ _)⟩, fun h => ⟨rfl, rfl⟩, hkk⟩
        · rw [ho, if_pos rfl] at hn
          have hbt := (octal_iff s kk).1 ho
          have hlt := hbt.1
          have hb48 := hbt.2.1
          have hb55 := hbt.2.2
          rw [Utf8W.get!_of_lt s kk hlt] at hn hb48 hb55
          have HN := Lib.hid hn; have HO := Lib.hid ho
          clear hn ho hbt
          have hr63 : r ≤ 63 := HR2.out.2 (by omega)
          have q1 : IntKind.u8.wrap ((s[kk].toNat : Int) - 48) = (s[kk].toNat : Int) - 48 := by apply IntWalk.u8_in; omega
          have q2 : IntKind.i32.wrap (8 * r) = 8 * r := by apply IntWalk.i32_in; omega
          have q3 : IntKind.i32.wrap (8 * r + ((s[kk].toNat : Int) - 48)) = 8 * r + ((s[kk].toNat : Int) - 48) := by apply IntWalk.i32_in; omega
          have hbi : (kk : Int) < (s.size : Int) := by omega
          have hr7 : j + 1 ≤ 1 → 8 * r + ((s[kk].toNat : Int) - 48) ≤ 63 := fun h => by have := HR2.out.1 (by omega); omega
          have HR7 := Lib.hid hr7
          have hb511 : 0 ≤ 8 * r + ((s[kk].toNat : Int) - 48) ∧ 8 * r + ((s[kk].toNat : Int) - 48) ≤ 511 := by omega
          have HB5 := Lib.hid hb511
          clear hr7 hb511
          go_wp2_with (go_at_call 60; refine (CO.out Q kk 0 _ HR.out hq5 hkk).mono ?_; rintro e w5 ⟨rfl, n5, rfl⟩; rw [HO.out])
          go_quiet (fail)
          go_wp2
          go_roundg g'
          case rel => exact ⟨j + 1, kk + 1, _, rfl, by go_num, by omega, (HR.out.drewN _).setAt (kk + 1), q_keep (gb_set _ b 1 _) hq5 hQ, gb_trans (gb_trans HG.out (gb_drewN _ _ _)) (gb_set _ _ _ _), by omega, HB5.out.1, HB5.out.2, ⟨by omega, HR7.out⟩, by omega, by rw [show 2 - (j + 1) = 1 - j by omega]; exact HN.out⟩
          case measure => omega
      · obtain rfl : j = 2 := by omega
        have HN : Hid ((r, kk, (0 : Int)) = A) := Lib.hid hn
        clear hn
        go_wp2
        go_ret
        refine HP.out _ _ ⟨_, kk, rfl, ?_⟩
        rw [← HN.out]
        exact ⟨⟨HR.out, HG.out⟩, fun h => ⟨rfl, rfl⟩, hkk⟩
  · have d1 := D1.out f1
    have HF2 := Lib.hid f2
    clear f2
    go_wp2_with fail
    refine (CO.out Q k1 0 _ HR3.out hq3 hk1).mono ?_
    rintro e w4 ⟨rfl, n4, rfl⟩
    rw [HF2.out]
    have HRZ := Lib.hid (HR3.out.drewN n4); have HGZ := Lib.hid (gb_trans HG3.out (gb_drewN _ n4 _))
    have hqz : (w3.drewN n4).cell? ⟨Q, 0, none⟩ = some (.pointer (some ⟨b, 0, none⟩)) := hq3
    go_wp2_with fail
    go_loopg [5, 6] 3 (fun g s5 s6 wx => ∃ (j kk : Nat) (r : Int), s5 = .int .i32 r ∧ s6 = .int .i64 j ∧ j ≤ 2 ∧ Rd wx b s kk 0 ∧ wx.cell? ⟨Q, 0, none⟩ = some (.pointer (some ⟨b, 0, none⟩)) ∧ w.grownBy wx (some b) ∧ kk ≤ s.size ∧ 0 ≤ r ∧ r ≤ 511 ∧ ((j = 0 → r ≤ 7) ∧ (j ≤ 1 → r ≤ 63)) ∧ 2 - j < g ∧ oct s (2 - j) kk r = A)
    case atStart => exact ⟨0, k1, _, rfl, rfl, by omega, HRZ.out, hqz, HGZ.out, hk1, by omega, by omega, ⟨by omega, by omega⟩, by omega, HA.out⟩
    case round =>
      obtain ⟨j, kk, r, rfl, rfl, hj, hR, hq5, hgw, hkk, hr0, hr1, hr2, hg, hn⟩ := hrel
      obtain ⟨g', rfl⟩ : ∃ g', gk = g' + 1 := ⟨gk - 1, by omega⟩
      have HR := Lib.hid hR; have HG := Lib.hid hgw; have HR2 := Lib.hid hr2
      have z0 := hR.s0; have z1 := hR.a1; have zf := hR.f1
      clear hR hgw hr2
      by_cases hj2 : j < 2
      · rw [show 2 - j = (1 - j) + 1 by omega] at hn
        simp only [oct] at hn
        cases ho : octal s kk
        · rw [ho, if_neg Bool.false_ne_true] at hn
          have HN := Lib.hid hn; have HO := Lib.hid ho
          clear hn ho
          go_wp2_with (go_at_call 60; refine (CO.out Q kk 0 _ HR.out hq5 hkk).mono ?_; rintro e w5 ⟨rfl, n5, rfl⟩; rw [HO.out])
          go_ret
          refine HP.out _ _ ⟨_, kk, rfl, ?_⟩
          rw [← HN.out]
          exact ⟨⟨HR.out.drewN _, gb_trans HG.out (gb_drewN _ _ _)⟩, fun h => ⟨rfl, rfl⟩, hkk⟩
        · rw [ho, if_pos rfl] at hn
          have hbt := (octal_iff s kk).1 ho
          have hlt := hbt.1
          have hb48 := hbt.2.1
          have hb55 := hbt.2.2
          rw [Utf8W.get!_of_lt s kk hlt] at hn hb48 hb55
          have HN := Lib.hid hn; have HO := Lib.hid ho
          clear hn ho hbt
          have hr63 : r ≤ 63 := HR2.out.2 (by omega)
          have q1 : IntKind.u8.wrap ((s[kk].toNat : Int) - 48) = (s[kk].toNat : Int) - 48 := by apply IntWalk.u8_in; omega
          have q2 : IntKind.i32.wrap (8 * r) = 8 * r := by apply IntWalk.i32_in; omega
          have q3 : IntKind.i32.wrap (8 * r + ((s[kk].toNat : Int) - 48)) = 8 * r + ((s[kk].toNat : Int) - 48) := by apply IntWalk.i32_in; omega
          have hbi : (kk : Int) < (s.size : Int) := by omega
          have hr7 : j + 1 ≤ 1 → 8 * r + ((s[kk].toNat : Int) - 48) ≤ 63 := fun h => by have := HR2.out.1 (by omega); omega
          have HR7 := Lib.hid hr7
          have hb511 : 0 ≤ 8 * r + ((s[kk].toNat : Int) - 48) ∧ 8 * r + ((s[kk].toNat : Int) - 48) ≤ 511 := by omega
          have HB5 := Lib.hid hb511
          clear hr7 hb511
          go_wp2_with (go_at_call 60; refine (CO.out Q kk 0 _ HR.out hq5 hkk).mono ?_; rintro e w5 ⟨rfl, n5, rfl⟩; rw [HO.out])
          go_quiet (fail)
          go_wp2
          go_roundg g'
          case rel => exact ⟨j + 1, kk + 1, _, rfl, by go_num, by omega, (HR.out.drewN _).setAt (kk + 1), q_keep (gb_set _ b 1 _) hq5 hQ, gb_trans (gb_trans HG.out (gb_drewN _ _ _)) (gb_set _ _ _ _), by omega, HB5.out.1, HB5.out.2, ⟨by omega, HR7.out⟩, by omega, by rw [show 2 - (j + 1) = 1 - j by omega]; exact HN.out⟩
          case measure => omega
      · obtain rfl : j = 2 := by omega
        have HN : Hid ((r, kk, (0 : Int)) = A) := Lib.hid hn
        clear hn
        go_wp2
        go_ret
        refine HP.out _ _ ⟨_, kk, rfl, ?_⟩
        rw [← HN.out]
        exact ⟨⟨HR.out, HG.out⟩, fun h => ⟨rfl, rfl⟩, hkk⟩
end Go.Proofs.YtholpemmakdglaaDoor.Esc
