/- The reference's reader of hexadecimal digits in braces. -/
import Derived.Test.YtholpemmakdglaaDoorEscV
namespace Go.Proofs.YtholpemmakdglaaDoor.Esc
open Go.RowKit Go.Lib Tx
set_option linter.unusedVariables false
section
variable (s : ByteArray) (b k : Nat) (w : World)
set_option maxRecDepth 100000 in
set_option maxHeartbeats 4000000 in
theorem hex_br (h : Rd w b s k 0) (hk : k < s.size) (hm : s.size ≤ 1000) (h123 : (s.get! k).toNat = 123) :
    Calls Tryd.prog 62 #[.pointer (some ⟨b, 0, none⟩)] w (HexPost (hexE s k) s b w) := by
  have hd := (ch_byte hk (show 123 < 128 by omega)).2 h123
  have hbk : bad s k = false := by unfold bad; rw [hd]; rfl
  have hE : hexE s k = hexB s (s.size + 1) (k + 1) 0 false := by
    unfold hexE
    rw [if_neg (by omega), if_neg (by rw [hbk]; exact Bool.false_ne_true), hd, if_pos rfl]
  have hyes : (decide (k < s.size) && s.get! k == 123) = true := by
    rw [show (123 : UInt8) = UInt8.ofNat 123 from rfl, u8_beq (by omega)]
    simp [hk, h123]
  have CT : Hid (Calls Tryd.prog 74 #[.pointer (some ⟨b, 0, none⟩), .string ⟨#[123]⟩] w fun e w' => e = .returned (.bool true) ∧ Left w b s (k + 1) 0 w') := Lib.hid (by
    have := take_c s b k 0 w h (by omega) (by omega) 123
    rw [hyes] at this
    exact this)
  have CF : Hid (∀ k' err w1, Rd w1 b s k' err → Calls Tryd.prog 59 #[.pointer (some ⟨b, 0, none⟩), .int .i64 4] w1 fun e w' => e = .returned (.tuple #[]) ∧ Left w1 b s k' (if err = 0 then 4 else err) w') := Lib.hid fun k' err w1 h => fail_c s b k' err w1 4 h
  rw [hE]
  obtain ⟨A, hA⟩ : ∃ A, hexB s (s.size + 1) (k + 1) 0 false = A := ⟨_, rfl⟩
  rw [hA]
  have HA := Lib.hid hA
  have HP : Hid (∀ e w', (∃ (r : Int) (k' : Nat), e = .returned (.int .i32 r) ∧ Left w b s k' A.2.2 w' ∧ (A.2.2 = 0 → r = A.1 ∧ k' = A.2.1) ∧ k' ≤ s.size) → HexPost A s b w e w') := Lib.hid fun e w' h => h
  clear hA hE hyes hbk hd h123 h
  go_enter Tryd.func62, Tryd.ntmps62
  go_wp2_with fail
  refine CT.out.mono ?_
  rintro e w1 ⟨rfl, hR1, hg1⟩
  have HR1 := Lib.hid hR1; have HG1 := Lib.hid hg1; clear hR1 hg1
  go_wp2_with fail
  go_loopg [5, 6] (s.size + 1) (fun g s5 s6 wx => ∃ (k : Nat) (r : Int) (sm : Bool), s5 = .int .i32 r ∧ s6 = .bool sm ∧ Rd wx b s k 0 ∧ w.grownBy wx (some b) ∧ k ≤ s.size ∧ 0 ≤ r ∧ r ≤ 1114111 ∧ s.size - k < g ∧ hexB s g k r sm = A)
  case atStart => exact ⟨k + 1, 0, false, rfl, rfl, HR1.out, HG1.out, by omega, by omega, by omega, by omega, HA.out⟩
  case round =>
    obtain ⟨k, r, sm, rfl, rfl, hR, hgw, hkl, hr1, hr2, hg, hn⟩ := hrel
    obtain ⟨g', rfl⟩ : ∃ g', gk = g' + 1 := ⟨gk - 1, by omega⟩
    have HR := Lib.hid hR; have HG := Lib.hid hgw; clear hR hgw
    have CO := Lib.hid (over_c s b k 0 wr HR.out hm (by omega))
    rw [hexB_succ'] at hn
    by_cases hks : s.size ≤ k
    · have ht : (decide (s.size ≤ k) || (0 : Int) != 0) = true := by simp [hks]
      rw [ht] at CO
      rw [if_pos hks] at hn
      have HN := Lib.hid hn
      clear hn hks ht
      go_wp2_with (first
        | (go_at_call 76; refine CO.out.mono ?_; rintro e w2 ⟨rfl, n, rfl⟩)
        | (go_at_call 59; refine (CF.out _ _ _ (HR.out.drewN n)).mono ?_; rintro e w3 ⟨rfl, hR3, hg3⟩; have HR3 := Lib.hid hR3; have HG3 := Lib.hid hg3; clear hR3 hg3))
      go_ret
      refine HP.out _ _ ⟨_, k, rfl, ?_⟩
      rw [← HN.out]
      exact ⟨⟨HR3.out, gb_trans (gb_trans HG.out (gb_drewN _ _ _)) HG3.out⟩, fun h => absurd h (by simp), hkl⟩
    · have ht : (decide (s.size ≤ k) || (0 : Int) != 0) = false := by simp; omega
      have hlt : k < s.size := by omega
      rw [ht] at CO
      rw [if_neg hks] at hn
      have hfit := decode_fits s k hlt
      have hk1 := hfit.2
      have hk0 := hfit.1
      have hch := ch_byte hlt (show 125 < 128 by omega)
      have hhl := hexv_lt (Utf8.decode s k).1
      have CT2 : Hid (∀ w1, Rd w1 b s k 0 → Calls Tryd.prog 74 #[.pointer (some ⟨b, 0, none⟩), .string ⟨#[125]⟩] w1 fun e w' => e = .returned (.bool (decide ((s.get! k).toNat = 125))) ∧ Left w1 b s (if (s.get! k).toNat = 125 then k + 1 else k) 0 w') := Lib.hid fun w1 h1 => by
        have := take_c s b k 0 w1 h1 hm hkl 125
        rw [show (125 : UInt8) = UInt8.ofNat 125 from rfl, u8_beq (by omega)] at this
        simpa [hlt] using this
      have CD : Hid (∀ w1, Rd w1 b s k 0 → Calls Tryd.prog 75 #[.pointer (some ⟨b, 0, none⟩)] w1 fun e w' => e = .returned (.int .i32 (hexv (Utf8.decode s k).1)) ∧ Left w1 b s (k + (Utf8.decode s k).2) (if bad s k = true then 9 else 0) w') := Lib.hid fun w1 h1 => by
        have := digit_c s b k w1 h1 hkl hm
        simpa only [if_neg hks] using this
      have h125v : (Utf8.decode s k).1 = 125 → hexv (Utf8.decode s k).1 = -1 := fun e => by rw [e]; rfl
      have hbadv : bad s k = true → hexv (Utf8.decode s k).1 = -1 := fun hb => by
        have hc : (Utf8.decode s k).1 = 65533 := by simp [bad] at hb; exact hb.1
        rw [hc]; rfl
      have hbad5 : (s.get! k).toNat = 125 → bad s k = false := fun h => by unfold bad; rw [hch.2 h]; rfl
      have hone : (s.get! k).toNat = 125 → k + (Utf8.decode s k).2 = k + 1 := fun h => by rw [hch.2 h]
      have hiff := hch.1
      clear hfit hch ht hks
      by_cases htk : sm = true ∧ (s.get! k).toNat = 125
      · obtain ⟨rfl, h5⟩ := htk
        rw [if_neg (by rw [hbad5 h5]; exact Bool.false_ne_true), if_pos (hiff.2 h5), if_pos rfl, hone h5] at hn
        rw [if_pos h5, show decide ((s.get! k).toNat = 125) = true by simpa using h5] at CT2
        have HN := Lib.hid hn
        clear hn h5 hiff hone hbad5 hbadv h125v
        go_wp2_with (first
          | (go_at_call 76; refine CO.out.mono ?_; rintro e w2 ⟨rfl, n, rfl⟩)
          | (go_at_call 74; refine (CT2.out _ (HR.out.drewN n)).mono ?_; rintro e w3 ⟨rfl, hR3, hg3⟩; have HR3 := Lib.hid hR3; have HG3 := Lib.hid hg3; clear hR3 hg3))
        go_ret
        refine HP.out _ _ ⟨_, k + 1, rfl, ?_⟩
        rw [← HN.out]
        exact ⟨⟨HR3.out, gb_trans (gb_trans HG.out (gb_drewN _ _ _)) HG3.out⟩, fun h => ⟨rfl, rfl⟩, by omega⟩
      · have hstop : (hexv (Utf8.decode s k).1 < 0 ∨ 1114111 < 16 * r + hexv (Utf8.decode s k).1) → A = (0, 0, if bad s k = true then 9 else 4) := fun hx => by
          rw [← hn]
          cases hb : bad s k
          · rw [if_neg Bool.false_ne_true, if_neg Bool.false_ne_true]
            by_cases h5 : (Utf8.decode s k).1 = 125
            · rw [if_pos h5, if_neg (fun e => htk ⟨e, hiff.1 h5⟩)]
            · rw [if_neg h5, if_pos hx]
          · rw [if_pos rfl, if_pos rfl]
        have hgo : ¬ (hexv (Utf8.decode s k).1 < 0 ∨ 1114111 < 16 * r + hexv (Utf8.decode s k).1) → bad s k = false ∧ hexB s g' (k + (Utf8.decode s k).2) (16 * r + hexv (Utf8.decode s k).1) true = A := fun hx => by
          have hb : bad s k = false := by
            cases hb : bad s k with
            | false => rfl
            | true => exact absurd (Or.inl (by rw [hbadv hb]; omega)) hx
          refine ⟨hb, ?_⟩
          rw [← hn, if_neg (by rw [hb]; exact Bool.false_ne_true), if_neg (fun e => hx (Or.inl (by rw [h125v e]; omega))), if_neg hx]
        have HST := Lib.hid hstop
        have HGO := Lib.hid hgo
        have CT3 : Hid (sm = true → ∀ w1, Rd w1 b s k 0 → Calls Tryd.prog 74 #[.pointer (some ⟨b, 0, none⟩), .string ⟨#[125]⟩] w1 fun e w' => e = .returned (.bool false) ∧ Left w1 b s k 0 w') := Lib.hid fun hsm w1 h1 => by
          have h5 : ¬ (s.get! k).toNat = 125 := fun h => htk ⟨hsm, h⟩
          have := CT2.out w1 h1
          rw [if_neg h5, show decide ((s.get! k).toNat = 125) = false by simpa using h5] at this
          exact this
        clear hn hstop hgo hiff hone hbad5 hbadv h125v htk CT2
        have hE4 : ∀ e : Int, e = (if bad s k = true then 9 else 0) → (if e = 0 then (4 : Int) else e) = if bad s k = true then 9 else 4 := fun e he => by
          subst he; cases bad s k <;> rfl
        have HE4 := Lib.hid (hE4 _ rfl)
        clear hE4
        generalize he9 : (if bad s k = true then (9 : Int) else 0) = er at *
        have HE9 := Lib.hid he9; clear he9
        have hkk : k < k + (Utf8.decode s k).2 := by omega
        generalize hexv (Utf8.decode s k).1 = v at *
        generalize k + (Utf8.decode s k).2 = k1 at *
        clear hk0
        by_cases hx : v < 0 ∨ 1114111 < 16 * r + v
        · have HAE := Lib.hid (HST.out hx)
          have hcase : v < 0 ∨ (¬ v < 0 ∧ 1114111 < 16 * r + v) := by omega
          clear hx
          cases sm
          all_goals rcases hcase with hv0 | ⟨hv0, hv1⟩
          all_goals
            go_wp2_with (first
              | (go_at_call 76; refine CO.out.mono ?_; rintro e w2 ⟨rfl, n, rfl⟩)
              | (go_at_call 74; refine (CT3.out (by first | rfl | trivial) _ (HR.out.drewN n)).mono ?_; rintro e w3 ⟨rfl, hR3, hg3⟩; have HR3 := Lib.hid hR3; have HG3 := Lib.hid (gb_trans (gb_trans HG.out (gb_drewN _ n _)) hg3); clear hR3 hg3)
              | (go_at_call 75; first
                  | (refine (CD.out _ HR3.out).mono ?_; rintro e w4 ⟨rfl, hR4, hg4⟩; have HR4 := Lib.hid hR4; have HG4 := Lib.hid (gb_trans HG3.out hg4); clear hR4 hg4)
                  | (refine (CD.out _ (HR.out.drewN n)).mono ?_; rintro e w4 ⟨rfl, hR4, hg4⟩; have HR4 := Lib.hid hR4; have HG4 := Lib.hid (gb_trans (gb_trans HG.out (gb_drewN _ n _)) hg4); clear hR4 hg4))
              | (go_at_call 59; refine (CF.out _ _ _ HR4.out).mono ?_; rintro e w5 ⟨rfl, hR5, hg5⟩; rw [HE4.out] at hR5; have HR5 := Lib.hid hR5; have HG5 := Lib.hid (gb_trans HG4.out hg5); clear hR5 hg5))
            go_ret
            refine HP.out _ _ ⟨_, k1, rfl, ?_⟩
            rw [HAE.out]
            exact ⟨⟨HR5.out, HG5.out⟩, fun h => absurd h (by show ¬ (if bad s k = true then (9 : Int) else 4) = 0; cases bad s k <;> simp), hk1⟩
        · obtain ⟨hb0, hn2⟩ := HGO.out hx
          have HN := Lib.hid hn2
          have hv0 : ¬ v < 0 := by omega
          have hv1 : ¬ 1114111 < 16 * r + v := by omega
          have her : er = 0 := by rw [← HE9.out, hb0]; rfl
          clear hx hb0 hn2
          subst her
          cases sm
          all_goals
            go_wp2_with (first
              | (go_at_call 76; refine CO.out.mono ?_; rintro e w2 ⟨rfl, n, rfl⟩)
              | (go_at_call 74; refine (CT3.out (by first | rfl | trivial) _ (HR.out.drewN n)).mono ?_; rintro e w3 ⟨rfl, hR3, hg3⟩; have HR3 := Lib.hid hR3; have HG3 := Lib.hid (gb_trans (gb_trans HG.out (gb_drewN _ n _)) hg3); clear hR3 hg3)
              | (go_at_call 75; first
                  | (refine (CD.out _ HR3.out).mono ?_; rintro e w4 ⟨rfl, hR4, hg4⟩; have HR4 := Lib.hid hR4; have HG4 := Lib.hid (gb_trans HG3.out hg4); clear hR4 hg4)
                  | (refine (CD.out _ (HR.out.drewN n)).mono ?_; rintro e w4 ⟨rfl, hR4, hg4⟩; have HR4 := Lib.hid hR4; have HG4 := Lib.hid (gb_trans (gb_trans HG.out (gb_drewN _ n _)) hg4); clear hR4 hg4)))
            go_roundg g'
            case rel => exact ⟨k1, _, true, rfl, rfl, HR4.out, HG4.out, hk1, by omega, by omega, by omega, HN.out⟩
            case measure => omega
end
end Go.Proofs.YtholpemmakdglaaDoor.Esc
