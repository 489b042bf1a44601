/- The reference's reader of hexadecimal digits. -/
import Derived.Test.YtholpemmakdglaaDoorEscU
import Derived.Deep.DeepCutAuto
import Derived.Deep.CutBlock
namespace Go.Proofs.YtholpemmakdglaaDoor.Esc
open Go.RowKit Go.Lib Tx
set_option linter.unusedVariables false
theorem ch_byte {s : ByteArray} {k x : Nat} (hk : k < s.size) (hx : x < 128) : ((Utf8.decode s k).1 = x ↔ (s.get! k).toNat = x) ∧ ((s.get! k).toNat = x → Utf8.decode s k = (x, 1)) := by
  rw [Utf8W.get!_of_lt s k hk]
  by_cases ha : (s[k]'hk).toNat < 128
  · rw [decode_ascii s k hk ha]
    exact ⟨Iff.rfl, fun h => by rw [h]⟩
  · have := decode_high s k hk (by omega)
    exact ⟨by omega, fun h => by omega⟩
theorem u8_beq {c : UInt8} {x : Nat} (hx : x < 256) : (c == UInt8.ofNat x) = decide (c.toNat = x) := by
  rw [Bool.eq_iff_iff, beq_iff_eq, decide_eq_true_eq, ← UInt8.toNat_inj]
  simp [Nat.mod_eq_of_lt hx]
theorem hexB_succ' (s : ByteArray) (g k : Nat) (r : Int) (sm : Bool) : hexB s (g + 1) k r sm = if s.size ≤ k then (0, 0, 4) else if bad s k = true then (0, 0, 9)
    else if (Utf8.decode s k).1 = 125 then (if sm = true then (r, k + (Utf8.decode s k).2, 0) else (0, 0, 4))
    else if hexv (Utf8.decode s k).1 < 0 ∨ 1114111 < 16 * r + hexv (Utf8.decode s k).1 then (0, 0, 4)
    else hexB s g (k + (Utf8.decode s k).2) (16 * r + hexv (Utf8.decode s k).1) true := rfl
/-- What a reading method hands back. -/
def HexPost (A : Int × Nat × Int) (s : ByteArray) (b : Nat) (w : World) (e : Ending) (w' : World) : Prop :=
  ∃ (r : Int) (k' : Nat), e = .returned (.int .i32 r) ∧ Left w b s k' A.2.2 w' ∧ (A.2.2 = 0 → r = A.1 ∧ k' = A.2.1) ∧ k' ≤ s.size
set_option maxRecDepth 100000 in
set_option maxHeartbeats 1000000 in
theorem digit_e (s : ByteArray) (b k : Nat) (err : Int) (w : World) (h : Rd w b s k err) (hk : k ≤ s.size) (hm : s.size ≤ 1000) (he : err ≠ 0) :
    Calls Tryd.prog 75 #[.pointer (some ⟨b, 0, none⟩)] w fun e w' => e = .returned (.int .i32 (-1)) ∧ Left w b s k err w' := by
  have CO := Lib.hid (over_c s b k err w h hm (by omega))
  have HR := Lib.hid h
  clear h
  have ht : (decide (s.size ≤ k) || err != 0) = true := by simp [he]
  rw [ht] at CO
  clear ht he
  go_enter Tryd.func75, Tryd.ntmps75
  go_wp2_with (go_at_call 76; refine CO.out.mono ?_; rintro e w1 ⟨rfl, n, rfl⟩)
  go_ret
  exact ⟨rfl, HR.out.drewN n, gb_drewN _ _ _⟩
section
variable (s : ByteArray) (b k : Nat) (w : World)
set_option maxRecDepth 100000 in
set_option maxHeartbeats 4000000 in
theorem hex_two (h : Rd w b s k 0) (hk : k ≤ s.size) (hm : s.size ≤ 1000) (hno : (decide (k < s.size) && s.get! k == 123) = false) :
    Calls Tryd.prog 62 #[.pointer (some ⟨b, 0, none⟩)] w (HexPost (hexE s k) s b w) := by
  have CT : Hid (Calls Tryd.prog 74 #[.pointer (some ⟨b, 0, none⟩), .string ⟨#[123]⟩] w fun e w' => e = .returned (.bool false) ∧ Left w b s k 0 w') := Lib.hid (by
    have := take_c s b k 0 w h hm hk 123
    rw [hno] at this
    exact this)
  have CF : Hid (∀ k' err w1, Rd w1 b s k' err → Calls Tryd.prog 59 #[.pointer (some ⟨b, 0, none⟩), .int .i64 4] w1 fun e w' => e = .returned (.tuple #[]) ∧ Left w1 b s k' (if err = 0 then 4 else err) w') := Lib.hid fun k' err w1 h => fail_c s b k' err w1 4 h
  by_cases hks : s.size ≤ k
  · have hA : hexE s k = (0, 0, 4) := by unfold hexE; rw [if_pos hks]
    rw [hA]
    have CD : Hid (∀ w1, Rd w1 b s k 0 → Calls Tryd.prog 75 #[.pointer (some ⟨b, 0, none⟩)] w1 fun e w' => e = .returned (.int .i32 (-1)) ∧ Left w1 b s k 0 w') := Lib.hid fun w1 h1 => by
      have := digit_c s b k w1 h1 hk hm
      simpa only [if_pos hks] using this
    clear hA hks hno h
    go_enter Tryd.func62, Tryd.ntmps62
    go_wp2_with fail
    refine CT.out.mono ?_
    rintro e w1 ⟨rfl, hR1, hg1⟩
    have HR1 := Lib.hid hR1; have HG1 := Lib.hid hg1; clear hR1 hg1
    go_wp2_with fail
    refine (CD.out _ HR1.out).mono ?_
    rintro e w2 ⟨rfl, hR2, hg2⟩
    have HR2 := Lib.hid hR2; have HG2 := Lib.hid (gb_trans HG1.out hg2); clear hR2 hg2
    go_wp2_with fail
    refine (CD.out _ HR2.out).mono ?_
    rintro e w3 ⟨rfl, hR3, hg3⟩
    have HR3 := Lib.hid hR3; have HG3 := Lib.hid (gb_trans HG2.out hg3); clear hR3 hg3
    go_wp2_with fail
    refine (CF.out _ _ _ HR3.out).mono ?_
    rintro e w4 ⟨rfl, hR4, hg4⟩
    have HR4 := Lib.hid hR4; have HG4 := Lib.hid (gb_trans HG3.out hg4); clear hR4 hg4
    go_wp2
    go_ret
    exact ⟨_, k, rfl, ⟨HR4.out, HG4.out⟩, fun h => absurd h (by simp), hk⟩
  · have hlt : k < s.size := by omega
    have hfit := decode_fits s k hlt
    cases hb : bad s k
    · skip
      have h123 : (Utf8.decode s k).1 ≠ 123 := fun e => by
        have h2 := (ch_byte hlt (by omega)).1.1 e
        rw [show (123 : UInt8) = UInt8.ofNat 123 from rfl, u8_beq (by omega)] at hno
        simp [hlt, h2] at hno
      have CD : Hid (∀ w1, Rd w1 b s k 0 → Calls Tryd.prog 75 #[.pointer (some ⟨b, 0, none⟩)] w1 fun e w' => e = .returned (.int .i32 (hexv (Utf8.decode s k).1)) ∧ Left w1 b s (k + (Utf8.decode s k).2) 0 w') := Lib.hid fun w1 h1 => by
        have := digit_c s b k w1 h1 hk hm
        simp only [if_neg hks] at this
        rw [if_neg (by rw [hb]; exact Bool.false_ne_true)] at this
        exact this
      have hhl := hexv_lt (Utf8.decode s k).1
      have hk1 := hfit.2
      have hE : hexE s k = if s.size ≤ k + (Utf8.decode s k).2 then (0, 0, 4) else if bad s (k + (Utf8.decode s k).2) = true then (0, 0, 9)
        else if hexv (Utf8.decode s k).1 < 0 ∨ hexv (Utf8.decode s (k + (Utf8.decode s k).2)).1 < 0 then (0, 0, 4)
        else (16 * hexv (Utf8.decode s k).1 + hexv (Utf8.decode s (k + (Utf8.decode s k).2)).1, k + (Utf8.decode s k).2 + (Utf8.decode s (k + (Utf8.decode s k).2)).2, 0) := by
        rw [hexE, if_neg hks, if_neg (by rw [hb]; exact Bool.false_ne_true), if_neg h123]
      rw [hE]
      clear hE h123 hfit hb hks hno h
      generalize k + (Utf8.decode s k).2 = k1 at *
      generalize hexv (Utf8.decode s k).1 = x at *
      by_cases hk1s : s.size ≤ k1
      · rw [if_pos hk1s]
        have CE : Hid (∀ w1, Rd w1 b s k1 0 → Calls Tryd.prog 75 #[.pointer (some ⟨b, 0, none⟩)] w1 fun e w' => e = .returned (.int .i32 (-1)) ∧ Left w1 b s k1 0 w') := Lib.hid fun w1 h1 => by
          have := digit_c s b k1 w1 h1 hk1 hm
          simpa only [if_pos hk1s] using this
        clear hk1s
        by_cases hx0 : x < 0
        all_goals
          go_enter Tryd.func62, Tryd.ntmps62
          go_wp2_with fail
          refine CT.out.mono ?_
          rintro e w1 ⟨rfl, hR1, hg1⟩
          have HR1 := Lib.hid hR1; have HG1 := Lib.hid hg1; clear hR1 hg1
          go_wp2_with fail
          refine (CD.out _ HR1.out).mono ?_
          rintro e w2 ⟨rfl, hR2, hg2⟩
          have HR2 := Lib.hid hR2; have HG2 := Lib.hid (gb_trans HG1.out hg2); clear hR2 hg2
          go_wp2_with fail
          refine (CE.out _ HR2.out).mono ?_
          rintro e w3 ⟨rfl, hR3, hg3⟩
          have HR3 := Lib.hid hR3; have HG3 := Lib.hid (gb_trans HG2.out hg3); clear hR3 hg3
          go_wp2_with fail
          refine (CF.out _ _ _ HR3.out).mono ?_
          rintro e w4 ⟨rfl, hR4, hg4⟩
          have HR4 := Lib.hid hR4; have HG4 := Lib.hid (gb_trans HG3.out hg4); clear hR4 hg4
          go_wp2
          go_ret
          exact ⟨_, k1, rfl, ⟨HR4.out, HG4.out⟩, fun h => absurd h (by simp), hk1⟩
      · rw [if_neg hk1s]
        have hfit2 := decode_fits s k1 (by omega)
        cases hb1 : bad s k1
        · rw [if_neg Bool.false_ne_true]
          have CE : Hid (∀ w1, Rd w1 b s k1 0 → Calls Tryd.prog 75 #[.pointer (some ⟨b, 0, none⟩)] w1 fun e w' => e = .returned (.int .i32 (hexv (Utf8.decode s k1).1)) ∧ Left w1 b s (k1 + (Utf8.decode s k1).2) 0 w') := Lib.hid fun w1 h1 => by
            have := digit_c s b k1 w1 h1 hk1 hm
            simp only [if_neg hk1s] at this
            rw [if_neg (by rw [hb1]; exact Bool.false_ne_true)] at this
            exact this
          have hhl2 := hexv_lt (Utf8.decode s k1).1
          have hk2 := hfit2.2
          clear hfit2 hb1 hk1s
          generalize k1 + (Utf8.decode s k1).2 = k2 at *
          generalize hexv (Utf8.decode s k1).1 = y at *
          by_cases hx0 : x < 0
          · rw [if_pos (Or.inl hx0)]
            go_enter Tryd.func62, Tryd.ntmps62
            go_wp2_with fail
            refine CT.out.mono ?_
            rintro e w1 ⟨rfl, hR1, hg1⟩
            have HR1 := Lib.hid hR1; have HG1 := Lib.hid hg1; clear hR1 hg1
            go_wp2_with fail
            refine (CD.out _ HR1.out).mono ?_
            rintro e w2 ⟨rfl, hR2, hg2⟩
            have HR2 := Lib.hid hR2; have HG2 := Lib.hid (gb_trans HG1.out hg2); clear hR2 hg2
            go_wp2_with fail
            refine (CE.out _ HR2.out).mono ?_
            rintro e w3 ⟨rfl, hR3, hg3⟩
            have HR3 := Lib.hid hR3; have HG3 := Lib.hid (gb_trans HG2.out hg3); clear hR3 hg3
            go_wp2_with fail
            refine (CF.out _ _ _ HR3.out).mono ?_
            rintro e w4 ⟨rfl, hR4, hg4⟩
            have HR4 := Lib.hid hR4; have HG4 := Lib.hid (gb_trans HG3.out hg4); clear hR4 hg4
            go_wp2
            go_ret
            exact ⟨_, k2, rfl, ⟨HR4.out, HG4.out⟩, fun h => absurd h (by simp), hk2⟩
          · by_cases hy0 : y < 0
            · rw [if_pos (Or.inr hy0)]
              go_enter Tryd.func62, Tryd.ntmps62
              go_wp2_with fail
              refine CT.out.mono ?_
              rintro e w1 ⟨rfl, hR1, hg1⟩
              have HR1 := Lib.hid hR1; have HG1 := Lib.hid hg1; clear hR1 hg1
              go_wp2_with fail
              refine (CD.out _ HR1.out).mono ?_
              rintro e w2 ⟨rfl, hR2, hg2⟩
              have HR2 := Lib.hid hR2; have HG2 := Lib.hid (gb_trans HG1.out hg2); clear hR2 hg2
              go_wp2_with fail
              refine (CE.out _ HR2.out).mono ?_
              rintro e w3 ⟨rfl, hR3, hg3⟩
              have HR3 := Lib.hid hR3; have HG3 := Lib.hid (gb_trans HG2.out hg3); clear hR3 hg3
              go_wp2_with fail
              refine (CF.out _ _ _ HR3.out).mono ?_
              rintro e w4 ⟨rfl, hR4, hg4⟩
              have HR4 := Lib.hid hR4; have HG4 := Lib.hid (gb_trans HG3.out hg4); clear hR4 hg4
              go_wp2
              go_ret
              exact ⟨_, k2, rfl, ⟨HR4.out, HG4.out⟩, fun h => absurd h (by simp), hk2⟩
            · rw [if_neg (by omega)]
              go_enter Tryd.func62, Tryd.ntmps62
              go_wp2_with fail
              refine CT.out.mono ?_
              rintro e w1 ⟨rfl, hR1, hg1⟩
              have HR1 := Lib.hid hR1; have HG1 := Lib.hid hg1; clear hR1 hg1
              go_wp2_with fail
              refine (CD.out _ HR1.out).mono ?_
              rintro e w2 ⟨rfl, hR2, hg2⟩
              have HR2 := Lib.hid hR2; have HG2 := Lib.hid (gb_trans HG1.out hg2); clear hR2 hg2
              go_wp2_with fail
              refine (CE.out _ HR2.out).mono ?_
              rintro e w3 ⟨rfl, hR3, hg3⟩
              have HR3 := Lib.hid hR3; have HG3 := Lib.hid (gb_trans HG2.out hg3); clear hR3 hg3
              go_wp2
              go_ret
              exact ⟨_, k2, rfl, ⟨HR3.out, HG3.out⟩, fun h => ⟨rfl, rfl⟩, hk2⟩
        · rw [if_pos rfl]
          have hc : (Utf8.decode s k1).1 = 65533 := by simp [bad] at hb1; exact hb1.1
          have CE : Hid (∀ w1, Rd w1 b s k1 0 → Calls Tryd.prog 75 #[.pointer (some ⟨b, 0, none⟩)] w1 fun e w' => e = .returned (.int .i32 (-1)) ∧ Left w1 b s (k1 + (Utf8.decode s k1).2) 9 w') := Lib.hid fun w1 h1 => by
            have := digit_c s b k1 w1 h1 hk1 hm
            simp only [if_neg hk1s, hc] at this
            rw [if_pos hb1] at this
            exact this
          have hk2 := hfit2.2
          clear hfit2 hb1 hk1s hc
          generalize k1 + (Utf8.decode s k1).2 = k2 at *
          by_cases hx0 : x < 0
          all_goals
            go_enter Tryd.func62, Tryd.ntmps62
            go_wp2_with fail
            refine CT.out.mono ?_
            rintro e w1 ⟨rfl, hR1, hg1⟩
            have HR1 := Lib.hid hR1; have HG1 := Lib.hid hg1; clear hR1 hg1
            go_wp2_with fail
            refine (CD.out _ HR1.out).mono ?_
            rintro e w2 ⟨rfl, hR2, hg2⟩
            have HR2 := Lib.hid hR2; have HG2 := Lib.hid (gb_trans HG1.out hg2); clear hR2 hg2
            go_wp2_with fail
            refine (CE.out _ HR2.out).mono ?_
            rintro e w3 ⟨rfl, hR3, hg3⟩
            have HR3 := Lib.hid hR3; have HG3 := Lib.hid (gb_trans HG2.out hg3); clear hR3 hg3
            go_wp2_with fail
            refine (CF.out _ _ _ HR3.out).mono ?_
            rintro e w4 ⟨rfl, hR4, hg4⟩
            have HR4 := Lib.hid hR4; have HG4 := Lib.hid (gb_trans HG3.out hg4); clear hR4 hg4
            go_wp2
            go_ret
            exact ⟨_, k2, rfl, ⟨HR4.out, HG4.out⟩, fun h => absurd h (by simp), hk2⟩
    · have hA : hexE s k = (0, 0, 9) := by unfold hexE; rw [if_neg hks, if_pos hb]
      rw [hA]
      have hc : (Utf8.decode s k).1 = 65533 := by simp [bad] at hb; exact hb.1
      have CD : Hid (∀ w1, Rd w1 b s k 0 → Calls Tryd.prog 75 #[.pointer (some ⟨b, 0, none⟩)] w1 fun e w' => e = .returned (.int .i32 (-1)) ∧ Left w1 b s (k + (Utf8.decode s k).2) 9 w') := Lib.hid fun w1 h1 => by
        have := digit_c s b k w1 h1 hk hm
        simp only [if_neg hks, hc] at this
        rw [if_pos hb] at this
        exact this
      have CE : Hid (∀ w1, Rd w1 b s (k + (Utf8.decode s k).2) 9 → Calls Tryd.prog 75 #[.pointer (some ⟨b, 0, none⟩)] w1 fun e w' => e = .returned (.int .i32 (-1)) ∧ Left w1 b s (k + (Utf8.decode s k).2) 9 w') := Lib.hid fun w1 h1 => digit_e s b _ 9 w1 h1 (by omega) hm (by omega)
      have hk2 := hfit.2
      generalize k + (Utf8.decode s k).2 = k1 at *
      clear hA hks hno h hc hfit hb
      go_enter Tryd.func62, Tryd.ntmps62
      go_wp2_with fail
      refine CT.out.mono ?_
      rintro e w1 ⟨rfl, hR1, hg1⟩
      have HR1 := Lib.hid hR1; have HG1 := Lib.hid hg1; clear hR1 hg1
      go_wp2_with fail
      refine (CD.out _ HR1.out).mono ?_
      rintro e w2 ⟨rfl, hR2, hg2⟩
      have HR2 := Lib.hid hR2; have HG2 := Lib.hid (gb_trans HG1.out hg2); clear hR2 hg2
      go_wp2_with fail
      refine (CE.out _ HR2.out).mono ?_
      rintro e w3 ⟨rfl, hR3, hg3⟩
      have HR3 := Lib.hid hR3; have HG3 := Lib.hid (gb_trans HG2.out hg3); clear hR3 hg3
      go_wp2_with fail
      refine (CF.out _ _ _ HR3.out).mono ?_
      rintro e w4 ⟨rfl, hR4, hg4⟩
      have HR4 := Lib.hid hR4; have HG4 := Lib.hid (gb_trans HG3.out hg4); clear hR4 hg4
      go_wp2
      go_ret
      exact ⟨_, k1, rfl, ⟨HR4.out, HG4.out⟩, fun h => absurd h (by simp), hk2⟩
end
end Go.Proofs.YtholpemmakdglaaDoor.Esc
