/- The package's reader of a name behind a $. -/
import Derived.Test.YtmgdlodnhmpbiaaDoorTxeP
import Derived.Deep.DeepCutAuto
import Derived.Deep.CutBlock
namespace Go.Proofs.YtmgdlodnhmpbiaaDoor.Tx
open Go.RowKit Go.Lib Ext
set_option linter.unusedVariables false
/-- What a reader of t makes of it, behind the opening brace (br: there is one). -/
def txF (t : ByteArray) (br : Bool) : Option (ByteArray × Int × ByteArray) :=
  if nEnd t (t.size + 1) 0 = 0 then none
  else if br = true ∧ ¬ (nEnd t (t.size + 1) 0 < t.size ∧ (t.get! (nEnd t (t.size + 1) 0)).toNat = 125) then none
  else some (t.extract 0 (nEnd t (t.size + 1) 0), finI (t.extract 0 (nEnd t (t.size + 1) 0)).data.toList, t.extract (if br = true then nEnd t (t.size + 1) 0 + 1 else nEnd t (t.size + 1) 0) t.size)
def ExtPost (r : Option (ByteArray × Int × ByteArray)) (w : World) (e : Ending) (w' : World) : Prop :=
  Below w.heap.size w w' ∧ match r with
  | none => ∃ nm n rs, e = .returned (.tuple #[.string nm, .int .i64 n, .string rs, .bool false])
  | some (nm, n, rs) => e = .returned (.tuple #[.string nm, .int .i64 n, .string rs, .bool true])
theorem u8_eq {c : UInt8} {n : Nat} (h : c.toNat = n) (hn : n < 256) : c = UInt8.ofNat n := by rw [← UInt8.toNat_inj, h]; simp; omega
set_option maxRecDepth 100000 in
set_option maxHeartbeats 4000000 in
theorem ext_b (s : ByteArray) (w : World) (hT : UTabs w) (hm : s.size ≤ 2147483647) (h0 : 0 < s.size) (hb : s[0].toNat = 123) :
    Calls Tryd.prog 76 #[.string s] w (ExtPost (txF (s.extract 1 s.size) true) w) := by
  have hem := toList_full (s := s) (by omega)
  have h0z : (0 : Int) < (s.size : Int) := by omega
  have hbb : ((s[0].toNat : Int) == 123) = true := by rw [hb]; rfl
  have HT := Lib.hid hT
  have htm : ((s.extract 1 s.size)).size ≤ 2147483647 := by rw [Lib.tail_size]; omega
  clear hT hb
  go_enter Tryd.func76, Tryd.ntmps76
  go_upto_block 0 with fail
  generalize s.extract 1 s.size = t at *
  obtain ⟨E, hE⟩ : ∃ E, nEnd t (t.size + 1) 0 = E := ⟨_, rfl⟩
  have hEl : E ≤ t.size := by rw [← hE]; exact nEnd_le t _ 0 (Nat.zero_le _)
  have HE := Lib.hid hE; clear hE
  go_cut [7] (fun s7 wx => s7 = .int .i64 E ∧ Below w.heap.size w wx)
  case first =>
    go_wp2_with fail
    go_loopg [7] (t.size + 1) (fun g s7 wx => ∃ k : Nat, s7 = .int .i64 k ∧ k ≤ t.size ∧ Below w.heap.size w wx ∧ t.size - k < g ∧ nEnd t g k = E)
    case atStart => exact ⟨0, rfl, by omega, Below.refl _ _, by omega, HE.out⟩
    case round =>
      obtain ⟨k, rfl, hk, hbw, hg, hn⟩ := hrel
      obtain ⟨g', rfl⟩ : ∃ g', gk = g' + 1 := ⟨gk - 1, by omega⟩
      have HB := Lib.hid hbw; clear hbw
      by_cases hlt : k < t.size
      · have hfit := decode_fits t k hlt
        have hmax := decode_max t k
        have hT1 := HT.out.below HB.out
        have CD := Lib.hid (dec_c t k _ hlt hT1)
        have CL : Hid (∀ W1, Below wr.heap.size wr W1 → Calls Tryd.prog 95 #[.int .i32 ((Utf8.decode t k).1 : Nat)] W1 fun e w' => e = .returned (.bool (isLetterU ((Utf8.decode t k).1 : Nat))) ∧ Below W1.heap.size W1 w') := Lib.hid fun W1 h1 => letter_c _ W1 (by omega) (by omega) (hT1.below h1)
        have CG : Hid (∀ W1, Below wr.heap.size wr W1 → Calls Tryd.prog 96 #[.int .i32 ((Utf8.decode t k).1 : Nat)] W1 fun e w' => e = .returned (.bool (isDigitU ((Utf8.decode t k).1 : Nat))) ∧ Below W1.heap.size W1 w') := Lib.hid fun W1 h1 => digit_c _ W1 (by omega) (by omega) (hT1.below h1)
        have hnc : nch ((Utf8.decode t k).1 : Nat) = (((Utf8.decode t k).1 : Int) == 95 || isLetterU ((Utf8.decode t k).1 : Nat) || isDigitU ((Utf8.decode t k).1 : Nat)) := rfl
        simp only [nEnd] at hn
        generalize (Utf8.decode t k).1 = r at *
        generalize (Utf8.decode t k).2 = n at *
        generalize hL : isLetterU (r : Nat) = bl at *
        generalize hD : isDigitU (r : Nat) = bd at *
        generalize h95 : ((r : Int) == 95) = b9 at *
        have H95 := Lib.hid h95
        clear hT1 hL hD
        rw [hnc] at hn
        clear hnc
        have H := Lib.hid hn; clear hn
        cases bl
        · cases bd
          · cases b9
            · have HN := Lib.hid (show E = k by have := H.out; rw [if_neg (by simp)] at this; exact this.symm); clear H
              go_wp2_with (first
          | (go_at_call 62; refine CD.out.mono ?_; rintro e W1 ⟨rfl, hb1⟩; have HB1 := Lib.hid hb1; clear hb1)
          | (go_at_call 95; refine (CL.out _ HB1.out).mono ?_; rintro e W2 ⟨rfl, hb2⟩; have HB2 := Lib.hid (HB1.out.trans (hb2.mono HB1.out.size)); clear hb2)
          | (go_at_call 96; refine (CG.out _ HB2.out).mono ?_; rintro e W3 ⟨rfl, hb3⟩; have HB3 := Lib.hid (HB2.out.trans (hb3.mono HB2.out.size)); clear hb3))
              go_meet
              exact ⟨by rw [HN.out], HB.out.trans (HB3.out.mono HB.out.size)⟩
            · have HN := Lib.hid (show nEnd t g' (k + n) = E by have := H.out; rw [if_pos ⟨hlt, by simp⟩] at this; exact this); clear H
              go_wp2_with (first
          | (go_at_call 62; refine CD.out.mono ?_; rintro e W1 ⟨rfl, hb1⟩; have HB1 := Lib.hid hb1; clear hb1)
          | (go_at_call 95; refine (CL.out _ HB1.out).mono ?_; rintro e W2 ⟨rfl, hb2⟩; have HB2 := Lib.hid (HB1.out.trans (hb2.mono HB1.out.size)); clear hb2)
          | (go_at_call 96; refine (CG.out _ HB2.out).mono ?_; rintro e W3 ⟨rfl, hb3⟩; have HB3 := Lib.hid (HB2.out.trans (hb3.mono HB2.out.size)); clear hb3))
              go_roundg g'
              case rel => exact ⟨k + n, by go_num, by omega, HB.out.trans (HB3.out.mono HB.out.size), by omega, HN.out⟩
              case measure => omega
          · have HN := Lib.hid (show nEnd t g' (k + n) = E by have := H.out; rw [if_pos ⟨hlt, by simp⟩] at this; exact this); clear H
            clear h95
            go_wp2_with (first
          | (go_at_call 62; refine CD.out.mono ?_; rintro e W1 ⟨rfl, hb1⟩; have HB1 := Lib.hid hb1; clear hb1)
          | (go_at_call 95; refine (CL.out _ HB1.out).mono ?_; rintro e W2 ⟨rfl, hb2⟩; have HB2 := Lib.hid (HB1.out.trans (hb2.mono HB1.out.size)); clear hb2)
          | (go_at_call 96; refine (CG.out _ HB2.out).mono ?_; rintro e W3 ⟨rfl, hb3⟩; have HB3 := Lib.hid (HB2.out.trans (hb3.mono HB2.out.size)); clear hb3))
            go_roundg g'
            case rel => exact ⟨k + n, by go_num, by omega, HB.out.trans (HB3.out.mono HB.out.size), by omega, HN.out⟩
            case measure => omega
        · have HN := Lib.hid (show nEnd t g' (k + n) = E by have := H.out; rw [if_pos ⟨hlt, by simp⟩] at this; exact this); clear H
          clear h95
          go_wp2_with (first
          | (go_at_call 62; refine CD.out.mono ?_; rintro e W1 ⟨rfl, hb1⟩; have HB1 := Lib.hid hb1; clear hb1)
          | (go_at_call 95; refine (CL.out _ HB1.out).mono ?_; rintro e W2 ⟨rfl, hb2⟩; have HB2 := Lib.hid (HB1.out.trans (hb2.mono HB1.out.size)); clear hb2)
          | (go_at_call 96; refine (CG.out _ HB2.out).mono ?_; rintro e W3 ⟨rfl, hb3⟩; have HB3 := Lib.hid (HB2.out.trans (hb3.mono HB2.out.size)); clear hb3))
          go_roundg g'
          case rel => exact ⟨k + n, by go_num, by omega, HB.out.trans (HB2.out.mono HB.out.size), by omega, HN.out⟩
          case measure => omega
      · rw [nEnd_no (fun h => hlt h.1)] at hn
        have hkE : k = E := hn
        subst hkE
        clear hn
        go_wp2
        go_meet
        exact ⟨rfl, HB.out⟩
  case rest =>
    obtain ⟨rfl, hbw⟩ := hcut
    have HB := Lib.hid hbw; clear hbw
    have hx : txF t true = if E = 0 then none else if true = true ∧ ¬ (E < t.size ∧ (t.get! E).toNat = 125) then none else some (t.extract 0 E, finI (t.extract 0 E).data.toList, t.extract (if true = true then E + 1 else E) t.size) := by
      unfold txF; rw [HE.out]
    by_cases hE0 : E = 0
    · have hx1 : txF t true = none := by rw [hx, if_pos hE0]
      have HX := Lib.hid hx1
      have hbe : ((E : Int) == 0) = true := by rw [hE0]; rfl
      clear hx hx1 hE0
      go_wp2
      refine bodyPost_ret (v := .tuple #[.string ByteArray.empty, .int .i64 0, .string ByteArray.empty, .bool false]) (by simp [results, Tryd.results76, go_sem]; try rfl) rfl ⟨HB.out, ?_⟩
      rw [HX.out]
      exact ⟨_, _, _, rfl⟩
    · have hbe : ((E : Int) == 0) = false := by rw [beq_eq_false_iff_ne]; omega
      have hns : (t.extract 0 E).size = E := by rw [ByteArray.size_extract]; omega
      rw [if_neg hE0] at hx
      by_cases hEt : E < t.size
      · have hge : t.get! E = t[E] := Utf8W.get!_of_lt t E hEt
        by_cases h125 : t[E].toNat = 125
        · have hb5 : ((t[E].toNat : Int) != 125) = false := by rw [h125]; rfl
          rw [if_neg (fun h => h.2 ⟨hEt, by rw [hge]; exact h125⟩), if_pos rfl] at hx
          have hle : decide (t.size ≤ E) = false := by simp; omega
          have hE1 : 0 < E := by omega
          clear h125 hge hE0
          have HX := Lib.hid hx
          clear hx
          go_upto_block 2 with fail
          generalize t.extract 0 E = nm at *
          obtain ⟨ANS, hA⟩ : ∃ a, numI nm.data.toList 0 = a := ⟨_, rfl⟩
          have HA := Lib.hid hA; clear hA
          have HNS := Lib.hid hns
          have hnl : nm.size ≤ 2147483647 := by omega
          have hn0 : 0 < nm.size := by omega
          clear hns
          go_cut [3] (fun s3 wx => s3 = .int .i64 ANS ∧ wx = wc)
          case first =>
            go_wp2_with fail
            go_loopg [3, 10] (nm.size + 1) (fun g s3 s10 wx => ∃ (j : Nat) (n : Int), s3 = .int .i64 n ∧ s10 = .int .i64 j ∧ j ≤ nm.size ∧ 0 ≤ n ∧ n < 1000000000 ∧ wx = wc ∧ nm.size - j < g ∧ numI (nm.data.toList.drop j) n = ANS)
            case atStart => exact ⟨0, 0, rfl, rfl, by omega, by omega, by omega, rfl, by omega, by simpa using HA.out⟩
            case round =>
              obtain ⟨j, n, rfl, rfl, hj, h0, h1, rfl, hg, hn⟩ := hrel
              obtain ⟨g', rfl⟩ : ∃ g', gk = g' + 1 := ⟨gk - 1, by omega⟩
              by_cases hlt : j < nm.size
              · rw [drop_at nm j hlt] at hn
                simp only [numI] at hn
                have hH := Lib.hid hn; clear hn
                by_cases hd : isD nm[j] = true
                · have hc := (isD_iff _).1 hd
                  obtain ⟨hc1, hc2⟩ := hc
                  by_cases hn8 : n < 100000000
                  · have hA := hH.out
                    rw [if_pos ⟨hd, hn8⟩] at hA
                    have HA2 := Lib.hid hA
                    clear hd hA
                    go_wp2
                    go_roundg g'
                    case rel => exact ⟨j + 1, _, rfl, by go_num, by omega, by omega, by omega, rfl, by omega, HA2.out⟩
                    case measure => omega
                  · have hA := hH.out
                    rw [if_neg (fun h => hn8 h.2)] at hA
                    have HA2 := Lib.hid hA
                    clear hd hA
                    go_wp2
                    go_meet
                    exact ⟨by rw [← HA2.out], rfl⟩
                · have hd' : isD nm[j] = false := by simpa using hd
                  have hor : nm[j].toNat < 48 ∨ 57 < nm[j].toNat := by
                    rcases Nat.lt_or_ge nm[j].toNat 48 with h | h
                    · exact Or.inl h
                    · exact Or.inr (Nat.lt_of_not_le fun h' => by simp [(isD_iff _).2 ⟨h, h'⟩] at hd')
                  have hA := hH.out
                  rw [if_neg (fun h => hd h.1)] at hA
                  have HA2 := Lib.hid hA
                  clear hd hd' hA
                  rcases hor with hlo | hhi
                  · go_wp2
                    go_meet
                    exact ⟨by rw [← HA2.out], rfl⟩
                  · have hlo : ¬ nm[j].toNat < 48 := by omega
                    go_wp2
                    go_meet
                    exact ⟨by rw [← HA2.out], rfl⟩
              · obtain rfl : j = nm.size := by omega
                have hnn : n = ANS := by rw [← hn, List.drop_of_length_le (by rw [← Lib.size_eq]; omega)]; rfl
                clear hn
                subst hnn
                go_wp2
                go_meet
                exact ⟨rfl, rfl⟩
          case rest =>
            obtain ⟨rfl, rfl⟩ := hcut
            have hhd : nm.data.toList.head? = some nm[0] := by
              have := drop_at nm 0 hn0
              rw [List.drop_zero] at this
              rw [this]; rfl
            have hf : finI nm.data.toList = if nm[0].toNat = 48 ∧ 1 < nm.size then -1 else ANS := by
              unfold finI
              rw [hhd, HA.out, ← Lib.size_eq]
              have : (some nm[0] = some 48) ↔ nm[0].toNat = 48 := by
                rw [Option.some.injEq, ← UInt8.toNat_inj]; rfl
              simp only [this]
            by_cases h48 : nm[0].toNat = 48
            · have hb48 : ((nm[0].toNat : Int) == 48) = true := by rw [h48]; rfl
              by_cases h1 : 1 < nm.size
              · rw [if_pos ⟨h48, h1⟩] at hf
                have HF := Lib.hid hf
                clear hf h48 hhd
                go_wp2
                refine bodyPost_ret (v := .tuple #[.string nm, .int .i64 (-1), .string (t.extract (E + 1) t.size), .bool true]) (by simp [results, Tryd.results76, go_sem]) rfl ⟨HB.out, ?_⟩
                rw [HX.out, HF.out]
                try rfl
              · rw [if_neg (fun h => h1 h.2)] at hf
                have HF := Lib.hid hf
                clear hf h48 hhd
                go_wp2
                refine bodyPost_ret (v := .tuple #[.string nm, .int .i64 ANS, .string (t.extract (E + 1) t.size), .bool true]) (by simp [results, Tryd.results76, go_sem]) rfl ⟨HB.out, ?_⟩
                rw [HX.out, HF.out]
                try rfl
            · have hb48 : ((nm[0].toNat : Int) == 48) = false := by rw [beq_eq_false_iff_ne]; omega
              rw [if_neg (fun h => h48 h.1)] at hf
              have HF := Lib.hid hf
              clear hf h48 hhd
              go_wp2
              refine bodyPost_ret (v := .tuple #[.string nm, .int .i64 ANS, .string (t.extract (E + 1) t.size), .bool true]) (by simp [results, Tryd.results76, go_sem]) rfl ⟨HB.out, ?_⟩
              rw [HX.out, HF.out]
              try rfl
        · have hb5 : ((t[E].toNat : Int) != 125) = true := by rw [bne_iff_ne]; omega
          rw [if_pos ⟨rfl, fun h => h125 (by rw [← hge]; exact h.2)⟩] at hx
          have HX := Lib.hid hx
          clear hx h125 hge hE0 hns
          go_wp2
          refine bodyPost_ret (v := .tuple #[.string (t.extract 0 E), .int .i64 0, .string ByteArray.empty, .bool false]) (by simp [results, Tryd.results76, go_sem]; try rfl) rfl ⟨HB.out, ?_⟩
          rw [HX.out]
          exact ⟨_, _, _, rfl⟩
      · rw [if_pos ⟨rfl, fun h => hEt h.1⟩] at hx
        have HX := Lib.hid hx
        clear hx hE0 hns
        go_wp2
        refine bodyPost_ret (v := .tuple #[.string (t.extract 0 E), .int .i64 0, .string ByteArray.empty, .bool false]) (by simp [results, Tryd.results76, go_sem]; try rfl) rfl ⟨HB.out, ?_⟩
        rw [HX.out]
        exact ⟨_, _, _, rfl⟩
end Go.Proofs.YtmgdlodnhmpbiaaDoor.Tx
