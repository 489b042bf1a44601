/- The reference's reader of a name behind a $. -/
import Derived.Test.YtholpemmakdglaaDoorTxf
namespace Go.Proofs.YtholpemmakdglaaDoor.Tx
open Go.RowKit Go.Lib Ext
set_option linter.unusedVariables false
theorem below_dn {B : Nat} {w w' : World} (h : Below B w w') (n : Nat) : Below B w (w'.drewN n) := by
  induction n with
  | zero => exact h
  | succ n ih => exact ih.drew
theorem ext_ext (s : ByteArray) (p q : Nat) : (s.extract p s.size).extract q (s.extract p s.size).size = s.extract (p + q) s.size := by
  apply ByteArray.ext
  rw [Lib.tail_size]
  simp only [ByteArray.data_extract]
  rw [Array.extract_extract]
  congr 1
  omega
theorem ext_head (s : ByteArray) (p : Nat) (h : 0 < (s.extract p s.size).size) : (s.extract p s.size)[0] = s.get! p := by
  rw [Lib.tail_size] at h
  rw [Utf8W.get!_of_lt s p (by omega)]
  simp [ByteArray.getElem_extract]
set_option maxRecDepth 100000 in
set_option maxHeartbeats 1000000 in
theorem ref_b (s : ByteArray) (w : World) (hT : UTabs w) (hm : s.size ≤ 2147483647) (h0 : 0 < s.size) (hb : s[0].toNat = 123) :
    Calls Tryd.prog 11 #[.string s] w (ExtPost (txF (s.extract 1 s.size) true) w) := by
  have hem := toList_full (s := s) (by omega)
  have h0z : (0 : Int) < (s.size : Int) := by omega
  have hbb : ((s[0].toNat : Int) == 123) = true := by rw [hb]; rfl
  clear hb
  have HT := Lib.hid hT
  have htm : ((s.extract 1 s.size)).size ≤ 2147483647 := by rw [Lib.tail_size]; omega
  clear hT
  go_enter Tryd.func11, Tryd.ntmps11
  go_upto_block 0 with fail
  generalize s.extract 1 s.size = t at *
  obtain ⟨E, hE⟩ : ∃ E, nEnd t (t.size + 1) 0 = E := ⟨_, rfl⟩
  have hEl : E ≤ t.size := by rw [← hE]; exact nEnd_le t _ 0 (Nat.zero_le _)
  have HE := Lib.hid hE; clear hE
  go_cut [7] (fun s7 wx => s7 = .int .i64 E ∧ Below w.heap.size w wx)
  case first =>
    go_wp2_with fail
    go_loopg [7] (t.size + 1) (fun g s7 wx => ∃ k : Nat, s7 = .int .i64 k ∧ k ≤ t.size ∧ Below w.heap.size w wx ∧ t.size - k < g ∧ nEnd t g k = E)
    case atStart => exact ⟨0, rfl, by omega, Below.refl _ _, by omega, HE.out⟩
    case round =>
      obtain ⟨k, rfl, hk, hbw, hg, hn⟩ := hrel
      obtain ⟨g', rfl⟩ : ∃ g', gk = g' + 1 := ⟨gk - 1, by omega⟩
      have HB := Lib.hid hbw; clear hbw
      by_cases hlt : k < t.size
      · have hfit := decode_fits t k hlt
        have hmax := decode_max t k
        have hT1 := HT.out.below HB.out
        have CD := Lib.hid (dec_c t k _ hlt hT1)
        have CL : Hid (∀ W1, Below wr.heap.size wr W1 → Calls Tryd.prog 27 #[.int .i32 ((Utf8.decode t k).1 : Nat)] W1 fun e w' => e = .returned (.bool (nch ((Utf8.decode t k).1 : Nat))) ∧ Below W1.heap.size W1 w') := Lib.hid fun W1 h1 => namechar_c _ W1 (by omega) (by omega) (hT1.below h1)
        simp only [nEnd] at hn
        generalize (Utf8.decode t k).1 = r at *
        generalize (Utf8.decode t k).2 = n at *
        generalize hL : nch (r : Nat) = bl at *
        clear hT1 hL
        have H := Lib.hid hn; clear hn
        cases bl
        · have HN := Lib.hid (show E = k by have := H.out; rw [if_neg (by simp)] at this; exact this.symm); clear H
          go_wp2_with (first
          | (go_at_call 26; refine CD.out.mono ?_; rintro e W1 ⟨rfl, hb1⟩; have HB1 := Lib.hid hb1; clear hb1)
          | (go_at_call 27; refine (CL.out _ HB1.out).mono ?_; rintro e W2 ⟨rfl, hb2⟩; have HB2 := Lib.hid (HB1.out.trans (hb2.mono HB1.out.size)); clear hb2))
          go_meet
          exact ⟨by rw [HN.out], HB.out.trans (HB2.out.mono HB.out.size)⟩
        · have HN := Lib.hid (show nEnd t g' (k + n) = E by have := H.out; rw [if_pos ⟨hlt, rfl⟩] at this; exact this); clear H
          go_wp2_with (first
          | (go_at_call 26; refine CD.out.mono ?_; rintro e W1 ⟨rfl, hb1⟩; have HB1 := Lib.hid hb1; clear hb1)
          | (go_at_call 27; refine (CL.out _ HB1.out).mono ?_; rintro e W2 ⟨rfl, hb2⟩; have HB2 := Lib.hid (HB1.out.trans (hb2.mono HB1.out.size)); clear hb2))
          go_roundg g'
          case rel => exact ⟨k + n, by go_num, by omega, HB.out.trans (HB2.out.mono HB.out.size), by omega, HN.out⟩
          case measure => omega
      · rw [nEnd_no (fun h => hlt h.1)] at hn
        have hkE : k = E := hn
        subst hkE
        clear hn
        go_wp2
        go_meet
        exact ⟨rfl, HB.out⟩
  case rest =>
    obtain ⟨rfl, hbw⟩ := hcut
    have HB := Lib.hid hbw; clear hbw
    have hx : txF t true = if E = 0 then none else if true = true ∧ ¬ (E < t.size ∧ (t.get! E).toNat = 125) then none else some (t.extract 0 E, finI (t.extract 0 E).data.toList, t.extract (if true = true then E + 1 else E) t.size) := by
      unfold txF; rw [HE.out]
    have hns : (t.extract 0 E).size = E := by rw [ByteArray.size_extract]; omega
    have hrs : (t.extract E t.size).size = t.size - E := Lib.tail_size t E
    have hxt : (t.extract E t.size).extract 1 (t.extract E t.size).size = t.extract (E + 1) t.size := ext_ext t E 1
    have hix : ∀ h : 0 < (t.extract E t.size).size, (t.extract E t.size)[0] = t.get! E := fun h => ext_head t E h
    have HIX := Lib.hid hix
    have HXT := Lib.hid hxt
    have HX := Lib.hid hx
    clear hx hxt hix
    go_wp2_with fail
    go_quiet (fail)
    have HB2 := Lib.hid (below_dn HB.out nq)
    generalize wc.drewN nq = wd at *
    clear HB
    generalize hrr : t.extract E t.size = rs at *
    have HRR := Lib.hid hrr
    clear hrr
    generalize t.extract 0 E = nm at *
    by_cases hE0 : E = 0
    · have hx1 : txF t true = none := by rw [HX.out, if_pos hE0]
      have HX1 := Lib.hid hx1
      have hnm := toList_empty (s := nm) (by omega)
      clear hE0 hx1 hns hrs
      go_wp2
      refine bodyPost_ret (v := .tuple #[.string ByteArray.empty, .int .i64 0, .string ByteArray.empty, .bool false]) (by simp [results, Tryd.results11, go_sem]; try rfl) rfl ⟨HB2.out, ?_⟩
      rw [HX1.out]
      exact ⟨_, _, _, rfl⟩
    · have hx := HX.out
      rw [if_neg hE0] at hx
      have hnm := toList_full (s := nm) (by omega)
      have hne : nm.data.toList ≠ [] := fun e => hE0 (by rw [← hns, Lib.size_eq, e]; rfl)
      rw [fin_eq _ hne] at hx
      have CG := Lib.hid (gnum_c nm wd (by omega))
      clear hne
      by_cases hEt : E < t.size
      · have hr := toList_full (s := rs) (by omega)
        have hr0 : 0 < rs.size := by omega
        have hge : rs[0] = t.get! E := HIX.out hr0
        by_cases h125 : (t.get! E).toNat = 125
        · have hb5 : ((rs[0].toNat : Int) != 125) = false := by rw [hge, h125]; rfl
          rw [if_neg (fun h => h.2 ⟨hEt, h125⟩), if_pos trivial] at hx
          have HX1 := Lib.hid hx
          clear hx h125 hge hE0 hEt hns hrs
          go_wp2_with (go_at_call 28; refine CG.out.mono ?_; rintro e w1 ⟨rfl, rfl⟩)
          refine bodyPost_ret (v := .tuple #[.string nm, .int .i64 (finS nm.data.toList), .string (rs.extract 1 rs.size), .bool true]) (by simp [results, Tryd.results11, go_sem]; try rfl) rfl ⟨HB2.out, ?_⟩
          rw [HX1.out, HXT.out]
          try rfl
        · have hb5 : ((rs[0].toNat : Int) != 125) = true := by rw [hge, bne_iff_ne]; omega
          rw [if_pos ⟨trivial, fun h => h125 h.2⟩] at hx
          have HX1 := Lib.hid hx
          clear hx h125 hge hE0 hEt hns hrs
          go_wp2
          refine bodyPost_ret (v := .tuple #[.string ByteArray.empty, .int .i64 0, .string ByteArray.empty, .bool false]) (by simp [results, Tryd.results11, go_sem]; try rfl) rfl ⟨HB2.out, ?_⟩
          rw [HX1.out]
          exact ⟨_, _, _, rfl⟩
      · have hr := toList_empty (s := rs) (by omega)
        rw [if_pos ⟨trivial, fun h => hEt h.1⟩] at hx
        have HX1 := Lib.hid hx
        clear hx hE0 hEt hns hrs
        go_wp2
        refine bodyPost_ret (v := .tuple #[.string ByteArray.empty, .int .i64 0, .string ByteArray.empty, .bool false]) (by simp [results, Tryd.results11, go_sem]; try rfl) rfl ⟨HB2.out, ?_⟩
        rw [HX1.out]
        exact ⟨_, _, _, rfl⟩
set_option maxRecDepth 100000 in
set_option maxHeartbeats 1000000 in
theorem ref_n (s : ByteArray) (w : World) (hT : UTabs w) (hm : s.size ≤ 2147483647) (h0 : 0 < s.size) (hb : s[0].toNat ≠ 123) :
    Calls Tryd.prog 11 #[.string s] w (ExtPost (txF s false) w) := by
  have hem := toList_full (s := s) (by omega)
  have h0z : (0 : Int) < (s.size : Int) := by omega
  have hbb : ((s[0].toNat : Int) == 123) = false := by rw [beq_eq_false_iff_ne]; omega
  clear hb
  have HT := Lib.hid hT
  have htm : (s).size ≤ 2147483647 := by exact hm
  clear hT
  go_enter Tryd.func11, Tryd.ntmps11
  go_upto_block 0 with fail
  skip
  obtain ⟨E, hE⟩ : ∃ E, nEnd s (s.size + 1) 0 = E := ⟨_, rfl⟩
  have hEl : E ≤ s.size := by rw [← hE]; exact nEnd_le s _ 0 (Nat.zero_le _)
  have HE := Lib.hid hE; clear hE
  go_cut [7] (fun s7 wx => s7 = .int .i64 E ∧ Below w.heap.size w wx)
  case first =>
    go_wp2_with fail
    go_loopg [7] (s.size + 1) (fun g s7 wx => ∃ k : Nat, s7 = .int .i64 k ∧ k ≤ s.size ∧ Below w.heap.size w wx ∧ s.size - k < g ∧ nEnd s g k = E)
    case atStart => exact ⟨0, rfl, by omega, Below.refl _ _, by omega, HE.out⟩
    case round =>
      obtain ⟨k, rfl, hk, hbw, hg, hn⟩ := hrel
      obtain ⟨g', rfl⟩ : ∃ g', gk = g' + 1 := ⟨gk - 1, by omega⟩
      have HB := Lib.hid hbw; clear hbw
      by_cases hlt : k < s.size
      · have hfit := decode_fits s k hlt
        have hmax := decode_max s k
        have hT1 := HT.out.below HB.out
        have CD := Lib.hid (dec_c s k _ hlt hT1)
        have CL : Hid (∀ W1, Below wr.heap.size wr W1 → Calls Tryd.prog 27 #[.int .i32 ((Utf8.decode s k).1 : Nat)] W1 fun e w' => e = .returned (.bool (nch ((Utf8.decode s k).1 : Nat))) ∧ Below W1.heap.size W1 w') := Lib.hid fun W1 h1 => namechar_c _ W1 (by omega) (by omega) (hT1.below h1)
        simp only [nEnd] at hn
        generalize (Utf8.decode s k).1 = r at *
        generalize (Utf8.decode s k).2 = n at *
        generalize hL : nch (r : Nat) = bl at *
        clear hT1 hL
        have H := Lib.hid hn; clear hn
        cases bl
        · have HN := Lib.hid (show E = k by have := H.out; rw [if_neg (by simp)] at this; exact this.symm); clear H
          go_wp2_with (first
          | (go_at_call 26; refine CD.out.mono ?_; rintro e W1 ⟨rfl, hb1⟩; have HB1 := Lib.hid hb1; clear hb1)
          | (go_at_call 27; refine (CL.out _ HB1.out).mono ?_; rintro e W2 ⟨rfl, hb2⟩; have HB2 := Lib.hid (HB1.out.trans (hb2.mono HB1.out.size)); clear hb2))
          go_meet
          exact ⟨by rw [HN.out], HB.out.trans (HB2.out.mono HB.out.size)⟩
        · have HN := Lib.hid (show nEnd s g' (k + n) = E by have := H.out; rw [if_pos ⟨hlt, rfl⟩] at this; exact this); clear H
          go_wp2_with (first
          | (go_at_call 26; refine CD.out.mono ?_; rintro e W1 ⟨rfl, hb1⟩; have HB1 := Lib.hid hb1; clear hb1)
          | (go_at_call 27; refine (CL.out _ HB1.out).mono ?_; rintro e W2 ⟨rfl, hb2⟩; have HB2 := Lib.hid (HB1.out.trans (hb2.mono HB1.out.size)); clear hb2))
          go_roundg g'
          case rel => exact ⟨k + n, by go_num, by omega, HB.out.trans (HB2.out.mono HB.out.size), by omega, HN.out⟩
          case measure => omega
      · rw [nEnd_no (fun h => hlt h.1)] at hn
        have hkE : k = E := hn
        subst hkE
        clear hn
        go_wp2
        go_meet
        exact ⟨rfl, HB.out⟩
  case rest =>
    obtain ⟨rfl, hbw⟩ := hcut
    have HB := Lib.hid hbw; clear hbw
    have hx : txF s false = if E = 0 then none else if false = true ∧ ¬ (E < s.size ∧ (s.get! E).toNat = 125) then none else some (s.extract 0 E, finI (s.extract 0 E).data.toList, s.extract (if false = true then E + 1 else E) s.size) := by
      unfold txF; rw [HE.out]
    have hns : (s.extract 0 E).size = E := by rw [ByteArray.size_extract]; omega
    have hrs : (s.extract E s.size).size = s.size - E := Lib.tail_size s E
    have hxt : (s.extract E s.size).extract 1 (s.extract E s.size).size = s.extract (E + 1) s.size := ext_ext s E 1
    have hix : ∀ h : 0 < (s.extract E s.size).size, (s.extract E s.size)[0] = s.get! E := fun h => ext_head s E h
    have HIX := Lib.hid hix
    have HXT := Lib.hid hxt
    have HX := Lib.hid hx
    clear hx hxt hix
    go_wp2_with fail
    go_quiet (fail)
    have HB2 := Lib.hid (below_dn HB.out nq)
    generalize wc.drewN nq = wd at *
    clear HB
    generalize hrr : s.extract E s.size = rs at *
    have HRR := Lib.hid hrr
    clear hrr
    generalize s.extract 0 E = nm at *
    by_cases hE0 : E = 0
    · have hx1 : txF s false = none := by rw [HX.out, if_pos hE0]
      have HX1 := Lib.hid hx1
      have hnm := toList_empty (s := nm) (by omega)
      clear hE0 hx1 hns hrs
      go_wp2
      refine bodyPost_ret (v := .tuple #[.string ByteArray.empty, .int .i64 0, .string ByteArray.empty, .bool false]) (by simp [results, Tryd.results11, go_sem]; try rfl) rfl ⟨HB2.out, ?_⟩
      rw [HX1.out]
      exact ⟨_, _, _, rfl⟩
    · have hx := HX.out
      rw [if_neg hE0] at hx
      have hnm := toList_full (s := nm) (by omega)
      have hne : nm.data.toList ≠ [] := fun e => hE0 (by rw [← hns, Lib.size_eq, e]; rfl)
      rw [fin_eq _ hne] at hx
      have CG := Lib.hid (gnum_c nm wd (by omega))
      clear hne
      rw [if_neg (fun h => by cases h.1), if_neg (by simp)] at hx
      have HX1 := Lib.hid hx
      clear hx hE0 hns hrs
      go_wp2_with (go_at_call 28; refine CG.out.mono ?_; rintro e w1 ⟨rfl, rfl⟩)
      refine bodyPost_ret (v := .tuple #[.string nm, .int .i64 (finS nm.data.toList), .string rs, .bool true]) (by simp [results, Tryd.results11, go_sem]; try rfl) rfl ⟨HB2.out, ?_⟩
      rw [HX1.out, HRR.out]
      try rfl
set_option maxRecDepth 100000 in
set_option maxHeartbeats 1000000 in
theorem ref_0 (s : ByteArray) (w : World) (hT : UTabs w) (hm : s.size ≤ 2147483647) (h0 : s.size = 0) :
    Calls Tryd.prog 11 #[.string s] w (ExtPost (txF s false) w) := by
  have hem := toList_empty h0
  have H0 := Lib.hid h0
  clear h0
  have HT := Lib.hid hT
  have htm : (s).size ≤ 2147483647 := by exact hm
  clear hT
  go_enter Tryd.func11, Tryd.ntmps11
  go_upto_block 0 with fail
  skip
  obtain ⟨E, hE⟩ : ∃ E, nEnd s (s.size + 1) 0 = E := ⟨_, rfl⟩
  have hEl : E ≤ s.size := by rw [← hE]; exact nEnd_le s _ 0 (Nat.zero_le _)
  have HE := Lib.hid hE; clear hE
  go_cut [7] (fun s7 wx => s7 = .int .i64 E ∧ Below w.heap.size w wx)
  case first =>
    go_wp2_with fail
    go_loopg [7] (s.size + 1) (fun g s7 wx => ∃ k : Nat, s7 = .int .i64 k ∧ k ≤ s.size ∧ Below w.heap.size w wx ∧ s.size - k < g ∧ nEnd s g k = E)
    case atStart => exact ⟨0, rfl, by omega, Below.refl _ _, by omega, HE.out⟩
    case round =>
      obtain ⟨k, rfl, hk, hbw, hg, hn⟩ := hrel
      obtain ⟨g', rfl⟩ : ∃ g', gk = g' + 1 := ⟨gk - 1, by omega⟩
      have HB := Lib.hid hbw; clear hbw
      by_cases hlt : k < s.size
      · have hfit := decode_fits s k hlt
        have hmax := decode_max s k
        have hT1 := HT.out.below HB.out
        have CD := Lib.hid (dec_c s k _ hlt hT1)
        have CL : Hid (∀ W1, Below wr.heap.size wr W1 → Calls Tryd.prog 27 #[.int .i32 ((Utf8.decode s k).1 : Nat)] W1 fun e w' => e = .returned (.bool (nch ((Utf8.decode s k).1 : Nat))) ∧ Below W1.heap.size W1 w') := Lib.hid fun W1 h1 => namechar_c _ W1 (by omega) (by omega) (hT1.below h1)
        simp only [nEnd] at hn
        generalize (Utf8.decode s k).1 = r at *
        generalize (Utf8.decode s k).2 = n at *
        generalize hL : nch (r : Nat) = bl at *
        clear hT1 hL
        have H := Lib.hid hn; clear hn
        cases bl
        · have HN := Lib.hid (show E = k by have := H.out; rw [if_neg (by simp)] at this; exact this.symm); clear H
          go_wp2_with (first
          | (go_at_call 26; refine CD.out.mono ?_; rintro e W1 ⟨rfl, hb1⟩; have HB1 := Lib.hid hb1; clear hb1)
          | (go_at_call 27; refine (CL.out _ HB1.out).mono ?_; rintro e W2 ⟨rfl, hb2⟩; have HB2 := Lib.hid (HB1.out.trans (hb2.mono HB1.out.size)); clear hb2))
          go_meet
          exact ⟨by rw [HN.out], HB.out.trans (HB2.out.mono HB.out.size)⟩
        · have HN := Lib.hid (show nEnd s g' (k + n) = E by have := H.out; rw [if_pos ⟨hlt, rfl⟩] at this; exact this); clear H
          go_wp2_with (first
          | (go_at_call 26; refine CD.out.mono ?_; rintro e W1 ⟨rfl, hb1⟩; have HB1 := Lib.hid hb1; clear hb1)
          | (go_at_call 27; refine (CL.out _ HB1.out).mono ?_; rintro e W2 ⟨rfl, hb2⟩; have HB2 := Lib.hid (HB1.out.trans (hb2.mono HB1.out.size)); clear hb2))
          go_roundg g'
          case rel => exact ⟨k + n, by go_num, by omega, HB.out.trans (HB2.out.mono HB.out.size), by omega, HN.out⟩
          case measure => omega
      · rw [nEnd_no (fun h => hlt h.1)] at hn
        have hkE : k = E := hn
        subst hkE
        clear hn
        go_wp2
        go_meet
        exact ⟨rfl, HB.out⟩
  case rest =>
    obtain ⟨rfl, hbw⟩ := hcut
    have HB := Lib.hid hbw; clear hbw
    have hx : txF s false = if E = 0 then none else if false = true ∧ ¬ (E < s.size ∧ (s.get! E).toNat = 125) then none else some (s.extract 0 E, finI (s.extract 0 E).data.toList, s.extract (if false = true then E + 1 else E) s.size) := by
      unfold txF; rw [HE.out]
    have hns : (s.extract 0 E).size = E := by rw [ByteArray.size_extract]; omega
    have hrs : (s.extract E s.size).size = s.size - E := Lib.tail_size s E
    have hxt : (s.extract E s.size).extract 1 (s.extract E s.size).size = s.extract (E + 1) s.size := ext_ext s E 1
    have hix : ∀ h : 0 < (s.extract E s.size).size, (s.extract E s.size)[0] = s.get! E := fun h => ext_head s E h
    have HIX := Lib.hid hix
    have HXT := Lib.hid hxt
    have HX := Lib.hid hx
    clear hx hxt hix
    go_wp2_with fail
    go_quiet (fail)
    have HB2 := Lib.hid (below_dn HB.out nq)
    generalize wc.drewN nq = wd at *
    clear HB
    generalize hrr : s.extract E s.size = rs at *
    have HRR := Lib.hid hrr
    clear hrr
    generalize s.extract 0 E = nm at *
    by_cases hE0 : E = 0
    · have hx1 : txF s false = none := by rw [HX.out, if_pos hE0]
      have HX1 := Lib.hid hx1
      have hnm := toList_empty (s := nm) (by omega)
      clear hE0 hx1 hns hrs
      go_wp2
      refine bodyPost_ret (v := .tuple #[.string ByteArray.empty, .int .i64 0, .string ByteArray.empty, .bool false]) (by simp [results, Tryd.results11, go_sem]; try rfl) rfl ⟨HB2.out, ?_⟩
      rw [HX1.out]
      exact ⟨_, _, _, rfl⟩
    · have hx := HX.out
      rw [if_neg hE0] at hx
      have hnm := toList_full (s := nm) (by omega)
      have hne : nm.data.toList ≠ [] := fun e => hE0 (by rw [← hns, Lib.size_eq, e]; rfl)
      rw [fin_eq _ hne] at hx
      have CG := Lib.hid (gnum_c nm wd (by omega))
      clear hne
      rw [if_neg (fun h => by cases h.1), if_neg (by simp)] at hx
      have HX1 := Lib.hid hx
      clear hx hE0 hns hrs
      go_wp2_with (go_at_call 28; refine CG.out.mono ?_; rintro e w1 ⟨rfl, rfl⟩)
      refine bodyPost_ret (v := .tuple #[.string nm, .int .i64 (finS nm.data.toList), .string rs, .bool true]) (by simp [results, Tryd.results11, go_sem]; try rfl) rfl ⟨HB2.out, ?_⟩
      rw [HX1.out, HRR.out]
      try rfl
end Go.Proofs.YtholpemmakdglaaDoor.Tx
