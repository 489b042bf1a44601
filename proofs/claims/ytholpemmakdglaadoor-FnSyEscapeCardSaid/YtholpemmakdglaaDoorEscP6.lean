/- The package's reader of an escape: hexadecimal digits in braces. -/
import Derived.Test.YtholpemmakdglaaDoorEscP5
namespace Go.Proofs.YtholpemmakdglaaDoor.Esc
open Go.RowKit Go.Lib Tx
set_option linter.unusedVariables false
theorem hexB_succ (s : ByteArray) (g k : Nat) (r : Int) (sm : Bool) : hexB s (g + 1) k r sm = if s.size ≤ k then (0, 0, 4) else if bad s k = true then (0, 0, 9)
    else if (Utf8.decode s k).1 = 125 then (if sm = true then (r, k + (Utf8.decode s k).2, 0) else (0, 0, 4))
    else if hexv (Utf8.decode s k).1 < 0 ∨ 1114111 < 16 * r + hexv (Utf8.decode s k).1 then (0, 0, 4)
    else hexB s g (k + (Utf8.decode s k).2) (16 * r + hexv (Utf8.decode s k).1) true := rfl
set_option maxRecDepth 100000 in
set_option maxHeartbeats 4000000 in
theorem pe_xb (s : ByteArray) (p : Value) (w : World) (h1 : 1 < s.size) (hm : s.size ≤ 1000) (hT : U8 w) (hb : bad s 1 = false) (hc : (Utf8.decode s 1).1 = 120) (hk : 1 + (Utf8.decode s 1).2 < s.size) (hb2 : bad s (1 + (Utf8.decode s 1).2) = false) (h123 : (Utf8.decode s (1 + (Utf8.decode s 1).2)).1 = 123) :
    Calls Tryd.prog 64 #[p, .string s] w (EscPost (esc s) s w) := by
  have he : esc s = hexE s (1 + (Utf8.decode s 1).2) := by
    unfold esc escC
    rw [if_neg (by omega), if_neg (by rw [hb]; simp), hc, if_neg (by rintro (h | h); exact absurd h (by decide); exact absurd h.2.1 (by decide)), if_pos rfl]
  rw [he]
  have hsz : (s.extract 1 s.size).size = s.size - 1 := by rw [Lib.tail_size]
  have hem := toList_full (s := s.extract 1 s.size) (by omega)
  have CN := Lib.hid (next_c s 1 w h1 hm hT)
  have hfit := decode_fits s 1 h1
  have hmax := decode_max s 1
  have hts := Lib.tail_size s (1 + (Utf8.decode s 1).2)
  have HB := Lib.hid hb
  have hb0 := hb
  clear hsz hb
  have HC := Lib.hid hc
  have HT := Lib.hid hT
  clear he hT hb0 hc hmax hts hfit
  have CN2 : Hid (∀ e w', NrPost s 1 w e w' → Below w.heap.size w w' ∧ e = .returned (.tuple #[.int .i32 120, .string (s.extract (1 + (Utf8.decode s 1).2) s.size), .nilIface])) := Lib.hid fun e w' h => by
    obtain ⟨hb1, hr⟩ := h
    rw [if_neg (by rw [HB.out]; exact Bool.false_ne_true), HC.out] at hr
    exact ⟨hb1, hr⟩
  clear HC HB
  generalize 1 + (Utf8.decode s 1).2 = k0 at *
  have hx : hexE s k0 = hexB s (s.size + 1) (k0 + (Utf8.decode s k0).2) 0 false := by unfold hexE; rw [if_neg (by omega), if_neg (by rw [hb2]; simp), if_pos h123]
  rw [hx]
  clear hx
  obtain ⟨A, hA⟩ : ∃ A, hexB s (s.size + 1) (k0 + (Utf8.decode s k0).2) 0 false = A := ⟨_, rfl⟩
  rw [hA]
  have HA := Lib.hid hA; clear hA
  have HP : Hid (∀ e w', (Below w.heap.size w w' ∧ if A.2.2 = 0 then e = .returned (.tuple #[.int .i32 A.1, .string (s.extract A.2.1 s.size), .nilIface]) else ∃ v, e = .returned (.tuple #[.int .i32 0, .string ByteArray.empty, v]) ∧ ErrV w' v A.2.2) → EscPost A s w e w') := Lib.hid fun e w' h => h
  have hz := Lib.tail_size s k0
  have hem2 := toList_full (s := s.extract k0 s.size) (by omega)
  have hmax := decode_max s k0
  have hfit2 := decode_fits s k0 hk
  have CX : Hid (∀ w1, Below w.heap.size w w1 → Calls Tryd.prog 77 #[.string (s.extract k0 s.size)] w1 fun e w' => e = .returned (.tuple #[.int .i32 ((Utf8.decode s k0).1 : Nat), .string (s.extract (k0 + (Utf8.decode s k0).2) s.size), .nilIface]) ∧ Below w1.heap.size w1 w') := Lib.hid fun w1 h => (next_c s k0 w1 hk hm (Utf8Tabs_below HT.out h)).mono fun e w' hr => nr_good hb2 hr
  have CU1 := Lib.hid fun w1 => unhex_c (Utf8.decode s k0).1 w1 hmax
  clear hb2 hk hmax
  have h123b : (((Utf8.decode s k0).1 : Int) == 123) = true := by rw [h123]; rfl
  clear h123 CU1 hz
  generalize (Utf8.decode s k0).1 = c1 at *
  generalize k0 + (Utf8.decode s k0).2 = k1 at *
  have hk1 := hfit2.2
  clear hfit2
  go_enter Tryd.func64, Tryd.ntmps64
  go_wp2_with fail
  go_step3
  go_wp2_with (go_at_call 77; refine CN.out.mono ?_; rintro e w1 hr; obtain ⟨hb1, rfl⟩ := CN2.out _ _ hr)
  have HB1 := Lib.hid hb1
  clear hb1 hr
  go_step3
  go_wp2_with fail
  refine (CX.out _ HB1.out).mono ?_
  rintro e w2 ⟨rfl, hb2⟩
  have HB2 := Lib.hid (HB1.out.trans (hb2.mono HB1.out.size))
  clear hb2
  go_wp2_with fail
  go_loopg [4, 7, 10] (s.size + 1) (fun g s4 s7 s10 wx => ∃ (k nh : Nat) (r : Int), s4 = .int .i32 r ∧ s7 = .string (s.extract k s.size) ∧ s10 = .int .i64 nh ∧ k ≤ s.size ∧ nh ≤ k ∧ 0 ≤ r ∧ r ≤ 1114111 ∧ Below w.heap.size w wx ∧ s.size - k < g ∧ hexB s g k r (decide (0 < nh)) = A)
  case atStart => exact ⟨k1, 0, 0, rfl, rfl, rfl, by omega, by omega, by omega, by omega, HB2.out, by omega, HA.out⟩
  case round =>
    obtain ⟨k, nh, r, rfl, rfl, rfl, hkl, hnh, hr1, hr2, hbx, hg, hn⟩ := hrel
    have HBW := Lib.hid hbx
    clear hbx
    obtain ⟨g', rfl⟩ : ∃ g', gk = g' + 1 := ⟨gk - 1, by omega⟩
    rw [hexB_succ] at hn
    have htz := Lib.tail_size s k
    by_cases hks : s.size ≤ k
    · rw [if_pos hks] at hn
      have HN := Lib.hid hn
      have hemt := toList_empty (s := s.extract k s.size) (by omega)
      have htl : (s.extract k s.size).size ≤ s.size := by omega
      have HBX := Lib.hid HBW.out
      clear hn htz hks
      go_upto_region 66 with fail
      generalize s.extract k s.size = t at *
      have hw1 : IntKind.i64.wrap ((s.size : Int) - (t.size : Int)) = (s.size : Int) - (t.size : Int) := by apply IntWalk.i64_in; omega
      have hw2 : 0 ≤ (s.size : Int) - (t.size : Int) := by omega
      have hw3 : (s.size : Int) - (t.size : Int) ≤ (s.size : Int) := by omega
      go_region_held3 (fun _ => True) (first | trivial | go_keep) (fail)
      go_wp2
      try rw [Exit.noGoto_ret]
      go_ret3
      refine HP.out _ _ ⟨(HBX.out.alloc HBX.out.size _).drew, ?_⟩
      rw [← HN.out]
      exact ⟨_, rfl, _, _, rfl, by simp [msg], by simp; rfl⟩

    · rw [if_neg hks] at hn
      have hemt := toList_full (s := s.extract k s.size) (by omega)
      have hklt : k < s.size := by omega
      have hfit := decode_fits s k hklt
      have hmax := decode_max s k
      clear hks
      cases hbk : bad s k
      · rw [if_neg (by rw [hbk]; exact Bool.false_ne_true)] at hn
        have CN3 : Hid (∀ w1, Below w.heap.size w w1 → Calls Tryd.prog 77 #[.string (s.extract k s.size)] w1 fun e w' => e = .returned (.tuple #[.int .i32 ((Utf8.decode s k).1 : Nat), .string (s.extract (k + (Utf8.decode s k).2) s.size), .nilIface]) ∧ Below w1.heap.size w1 w') := Lib.hid fun w1 h => (next_c s k w1 hklt hm (Utf8Tabs_below HT.out h)).mono fun e w' hr => nr_good hbk hr
        have CU := Lib.hid fun w1 => unhex_c (Utf8.decode s k).1 w1 hmax
        have hvl := hexv_lt (Utf8.decode s k).1
        have hz2 := Lib.tail_size s (k + (Utf8.decode s k).2)
        have htl : (s.extract (k + (Utf8.decode s k).2) s.size).size ≤ s.size := by omega
        clear htz hz2 hbk hmax
        generalize hexv (Utf8.decode s k).1 = v at *
        generalize (Utf8.decode s k).1 = c at *
        have hn1 := hfit.1
        have hn2 := hfit.2
        clear hfit
        have hkk : ∃ k2, k + (Utf8.decode s k).2 = k2 := ⟨_, rfl⟩
        obtain ⟨k2, hkk⟩ := hkk
        have hk2 : k < k2 ∧ k2 ≤ s.size := by omega
        rw [hkk] at hn CN3 htl
        clear hkk hn1 hn2
        by_cases h125 : c = 125
        · rw [if_pos h125] at hn
          have hc5 : ((c : Int) == 125) = true := by rw [h125]; rfl
          clear h125
          by_cases hnz : 0 < nh
          · rw [if_pos (by simpa using hnz)] at hn
            have HN := Lib.hid hn
            have hnz2 : ((nh : Int) == 0) = false := by rw [beq_eq_false_iff_ne]; omega
            clear hn hnz
            go_wp2_with (go_at_call 77; refine (CN3.out _ HBW.out).mono ?_; rintro e w3 ⟨rfl, hb3⟩; have HB3 := Lib.hid (HBW.out.trans (hb3.mono HBW.out.size)); clear hb3)
            try rw [Exit.noGoto_ret]
            go_ret3
            refine HP.out _ _ ⟨HB3.out, ?_⟩
            rw [if_pos (by rw [← HN.out]), ← HN.out]
            rfl
          · rw [if_neg (by simpa using hnz)] at hn
            have HN := Lib.hid hn
            obtain rfl : nh = 0 := by omega
            clear hn hnz
            go_upto_region 66 with (go_at_call 77; refine (CN3.out _ HBW.out).mono ?_; rintro e w3 ⟨rfl, hb3⟩; have HBX := Lib.hid (HBW.out.trans (hb3.mono HBW.out.size)); clear hb3)
            generalize s.extract k2 s.size = t at *
            have hw1 : IntKind.i64.wrap ((s.size : Int) - (t.size : Int)) = (s.size : Int) - (t.size : Int) := by apply IntWalk.i64_in; omega
            have hw2 : 0 ≤ (s.size : Int) - (t.size : Int) := by omega
            have hw3 : (s.size : Int) - (t.size : Int) ≤ (s.size : Int) := by omega
            go_region_held3 (fun _ => True) (first | trivial | go_keep) (fail)
            go_wp2
            try rw [Exit.noGoto_ret]
            go_ret3
            refine HP.out _ _ ⟨(HBX.out.alloc HBX.out.size _).drew, ?_⟩
            rw [← HN.out]
            exact ⟨_, rfl, _, _, rfl, by simp [msg], by simp; rfl⟩

        · rw [if_neg h125] at hn
          have hc5 : ((c : Int) == 125) = false := by rw [beq_eq_false_iff_ne]; omega
          clear h125
          by_cases hv0 : v < 0
          · rw [if_pos (Or.inl hv0)] at hn
            have HN := Lib.hid hn
            clear hn
            go_upto_region 66 with (first | (go_at_call 77; refine (CN3.out _ HBW.out).mono ?_; rintro e w3 ⟨rfl, hb3⟩; have HBX := Lib.hid (HBW.out.trans (hb3.mono HBW.out.size)); clear hb3) | (go_at_call 79; refine (CU.out _).mono ?_; rintro e w4 ⟨rfl, rfl⟩))
            generalize s.extract k2 s.size = t at *
            have hw1 : IntKind.i64.wrap ((s.size : Int) - (t.size : Int)) = (s.size : Int) - (t.size : Int) := by apply IntWalk.i64_in; omega
            have hw2 : 0 ≤ (s.size : Int) - (t.size : Int) := by omega
            have hw3 : (s.size : Int) - (t.size : Int) ≤ (s.size : Int) := by omega
            go_region_held3 (fun _ => True) (first | trivial | go_keep) (fail)
            go_wp2
            try rw [Exit.noGoto_ret]
            go_ret3
            refine HP.out _ _ ⟨(HBX.out.alloc HBX.out.size _).drew, ?_⟩
            rw [← HN.out]
            exact ⟨_, rfl, _, _, rfl, by simp [msg], by simp; rfl⟩

          · by_cases hbig : 1114111 < 16 * r + v
            · rw [if_pos (Or.inr hbig)] at hn
              have HN := Lib.hid hn
              clear hn
              go_upto_region 66 with (first | (go_at_call 77; refine (CN3.out _ HBW.out).mono ?_; rintro e w3 ⟨rfl, hb3⟩; have HBX := Lib.hid (HBW.out.trans (hb3.mono HBW.out.size)); clear hb3) | (go_at_call 79; refine (CU.out _).mono ?_; rintro e w4 ⟨rfl, rfl⟩))
              generalize s.extract k2 s.size = t at *
              have hw1 : IntKind.i64.wrap ((s.size : Int) - (t.size : Int)) = (s.size : Int) - (t.size : Int) := by apply IntWalk.i64_in; omega
              have hw2 : 0 ≤ (s.size : Int) - (t.size : Int) := by omega
              have hw3 : (s.size : Int) - (t.size : Int) ≤ (s.size : Int) := by omega
              go_region_held3 (fun _ => True) (first | trivial | go_keep) (fail)
              go_wp2
              try rw [Exit.noGoto_ret]
              go_ret3
              refine HP.out _ _ ⟨(HBX.out.alloc HBX.out.size _).drew, ?_⟩
              rw [← HN.out]
              exact ⟨_, rfl, _, _, rfl, by simp [msg], by simp; rfl⟩

            · rw [if_neg (by omega)] at hn
              have HN := Lib.hid hn
              clear hn
              have hbig2 : r * 16 + v ≤ 1114111 := by omega
              go_wp2_with (first | (go_at_call 77; refine (CN3.out _ HBW.out).mono ?_; rintro e w3 ⟨rfl, hb3⟩; have HBX := Lib.hid (HBW.out.trans (hb3.mono HBW.out.size)); clear hb3) | (go_at_call 79; refine (CU.out _).mono ?_; rintro e w4 ⟨rfl, rfl⟩))
              go_roundg g'
              case rel => exact ⟨k2, nh + 1, r * 16 + v, rfl, rfl, by go_num, by omega, by omega, by omega, by omega, HBX.out, by omega, by rw [Int.mul_comm r 16]; simpa using HN.out⟩
              case measure => omega
      · rw [if_pos hbk] at hn
        have HN := Lib.hid hn
        have CN3 : Hid (∀ w1, Below w.heap.size w w1 → Calls Tryd.prog 77 #[.string (s.extract k s.size)] w1 (NrPost s k w1)) := Lib.hid fun w1 h => next_c s k w1 hklt hm (Utf8Tabs_below HT.out h)
        have HBB := Lib.hid hbk
        clear hn htz hfit hmax hbk
        go_wp2_with (go_at_call 77; refine (CN3.out _ HBW.out).mono ?_; rintro e w3 hr; obtain ⟨g, ex, rfl, hb3, c0, c1⟩ := nr_bad HBB.out hr; have HB3 := Lib.hid (HBW.out.trans (hb3.mono HBW.out.size)); clear hr hb3)
        try rw [Exit.noGoto_ret]
        go_ret3
        refine HP.out _ _ ⟨HB3.out, ?_⟩
        rw [← HN.out]
        exact ⟨_, rfl, g, ex, rfl, c0, c1⟩
end Go.Proofs.YtholpemmakdglaaDoor.Esc
