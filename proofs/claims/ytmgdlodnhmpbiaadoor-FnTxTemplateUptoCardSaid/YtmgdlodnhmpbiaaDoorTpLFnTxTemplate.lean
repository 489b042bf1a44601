/- A template that is written for texts stands in Go's regexp for these texts and, behind each, the group's text: the law's walk. -/
import Derived.Test.YtmgdlodnhmpbiaaDoorTpIFnTxTemplate
namespace Go.Proofs.YtmgdlodnhmpbiaaDoor.Tx
open Go.RowKit Go.Lib Ext Mem Go.Proofs.YtmgdlodnhmpbiaaDoor.PFnTxTemplate Go.Proofs.YtmgdlodnhmpbiaaDoorW.PrintWords Go.Proofs.YtmgdlodnhmpbiaaDoorW.PrintLast Go.Proofs.YtmgdlodnhmpbiaaDoorW.PrintMore
set_option linter.unusedVariables false
set_option maxRecDepth 100000 in
set_option maxHeartbeats 8000000 in
theorem law_c (At : Option Addr) (ct : Nat) (ts : List ByteArray) (Ag : Option Addr) (cg : Nat) (gs : List Int) (src : ByteArray) (A : Option Addr) (cap : Nat) (M : List Int) (w : World)
    (hU : UTabs w) (ht : Kd.C Kd.string w At ts.length ts) (hct : ts.length ≤ ct) (hg : Kd.C (Kd.int .i64) w Ag gs.length gs) (hM : Kd.C (Kd.int .i64) w A M.length M) (hcM : M.length ≤ cap)
    (hts : bytesL ts ≤ 1048576) (htl : ts.length ≤ 1048576) (hgl : gs.length ≤ 1048576) (hsl : src.size ≤ 1048576) (hml : M.length ≤ 1048576) :
    Calls Tryd.prog 3 #[.slice At ts.length ct, .slice Ag gs.length cg, .string src, .slice A M.length cap] w fun e w' => e = .returned (.bool true) ∧ Below w.heap.size w w' := by
  obtain ⟨rf, hrf⟩ := fits_f ts (by omega)
  have CF := Lib.hid (laws_zzFits8.calls (ts.length + 1) At ct ts rf w ht hct hrf)
  obtain ⟨rp, hrp, hprs⟩ := pairs_f (M := M) (src := src) (by omega) (by omega)
  have CP : Hid (∀ W, Below w.heap.size w W → Calls Tryd.prog 7 #[.slice A M.length cap, .string src] W fun e w' => e = .returned (.bool rp) ∧ Below W.heap.size W w') :=
    Lib.hid fun W hW => (spec_TxPairs.calls (M.length + 1) A cap M src rp W (hM.imp_ hW (fun _ _ h => h)) hcM hrp).mono fun e w' h => ⟨h.1, h.2.below⟩
  have CG : Hid (∀ n : Nat, n < 100 → Prs M src.size → ∃ gt b, gt.data.toList = grpL src M n ∧ ∀ W, Below w.heap.size w W → Calls Tryd.prog 8 #[.string src, .slice A M.length cap, .int .i64 (n : Int)] W fun e w' => e = .returned (.tuple #[.string gt, .bool b]) ∧ Below W.heap.size W w') :=
    Lib.hid fun n hn hp => by
      obtain ⟨gt, b, hf, hl⟩ := group_f (M := M) (src := src) hn (by omega) hp
      exact ⟨gt, b, hl, fun W hW => (spec_TxGroup.calls src A cap M n gt b W (Kd.C_below hM hW) hcM hf).mono fun e w' h => ⟨h.1, h.2.below⟩⟩
  have CL : Hid (∀ W, Below w.heap.size w W → Prs M src.size → Calls Tryd.prog 23 #[.slice A M.length cap, .int .i64 (src.size : Int)] W fun e w' => e = .returned (.bool true) ∧ Below W.heap.size W w') :=
    Lib.hid fun W hW hp => (impl_placed.calls (M.length + 1) A cap M src.size true W (Kd.C_below hM hW) hcM (placed_f (by omega) hp)).mono fun e w' h => ⟨h.1, h.2.below⟩
  have HST := Lib.hid (strs_kd ht)
  have HGS := Lib.hid (ints_kd hg)
  have HIM := Lib.hid (ints_kd hM)
  have HU := Lib.hid hU
  have HPR := Lib.hid hprs
  clear ht hct hg hM hcM hU hrf hrp hprs
  obtain ⟨I, hI⟩ : ∃ I, itemsOf ts gs = I := ⟨_, rfl⟩
  have hIl := items_len ts gs
  rw [hI] at hIl
  have hIt : Hid (∀ i, i < ts.length → i < gs.length → I.take (i + 1) = I.take i ++ [((ts.getD i ByteArray.empty).data.toList, (gs.getD i 0).natAbs % 100)]) := Lib.hid fun i h1 h2 => by rw [← hI]; exact items_take h1 h2
  have hIb : Hid (∀ i, ((I.take i).map fun x => x.1.length).sum ≤ 1048576) := Lib.hid fun i => by rw [← hI]; exact Nat.le_trans (items_bytes ts gs i) hts
  have hIs : Hid (∀ x ∈ I, x.2 < 100) := Lib.hid fun x hx => by
    rw [← hI] at hx
    exact items_small (i := (itemsOf ts gs).length) x (by rw [List.take_length]; exact hx)
  have HMB := Lib.hid (mem_bytes ts)
  clear hI
  cases rf
  · go_enter Tryd.func3, Tryd.ntmps3
    go_wp2_with (go_at_call 6; refine (Calls.mono CF.out ?_); rintro e w1 ⟨rfl, hd1⟩; have HB1 := Lib.hid hd1.below; clear hd1)
    go_ret
    exact ⟨rfl, HB1.out⟩
  cases rp
  · go_enter Tryd.func3, Tryd.ntmps3
    go_wp2_with (first
      | (go_at_call 6; refine (Calls.mono CF.out ?_); rintro e w1 ⟨rfl, hd1⟩; have HB1 := Lib.hid hd1.below; clear hd1)
      | (go_at_call 7; refine (Calls.mono (CP.out _ HB1.out) ?_); rintro e w2 ⟨rfl, hb2⟩; have HB2 := Lib.hid (HB1.out.trans (hb2.mono HB1.out.size)); clear hb2))
    go_ret
    exact ⟨rfl, HB2.out⟩
  have hpr := HPR.out rfl
  have HPR2 := Lib.hid hpr
  clear hpr HPR
  go_enter Tryd.func3, Tryd.ntmps3
  go_upto_block 0 with (first
      | (go_at_call 6; refine (Calls.mono CF.out ?_); rintro e w1 ⟨rfl, hd1⟩; have HB1 := Lib.hid hd1.below; clear hd1)
      | (go_at_call 7; refine (Calls.mono (CP.out _ HB1.out) ?_); rintro e w2 ⟨rfl, hb2⟩; have HB2 := Lib.hid (HB1.out.trans (hb2.mono HB1.out.size)); clear hb2))
  go_cut [9, 10] (fun s9 s10 wx => ∃ (t u : ByteArray), s9 = .string t ∧ s10 = .string u ∧ Hid (t.data.toList = tplL I) ∧ Hid (u.data.toList = outL (grpL src M) I) ∧ Hid (Below w.heap.size w wx))
  case first =>
    go_wp2_with fail
    go_loopg [9, 10, 11] (I.length + 1) (fun g s9 s10 s11 wx => ∃ (i : Nat) (t u : ByteArray), s9 = .string t ∧ s10 = .string u ∧ s11 = .int .i64 i ∧ i ≤ I.length ∧ I.length - i < g ∧ Hid (t.data.toList = tplL (I.take i)) ∧ Hid (u.data.toList = outL (grpL src M) (I.take i)) ∧ Hid (Below w.heap.size w wx))
    case atStart => exact ⟨0, ByteArray.empty, ByteArray.empty, rfl, rfl, rfl, by omega, by omega, Lib.hid rfl, Lib.hid rfl, HB2⟩
    case round =>
      obtain ⟨i, t, u, rfl, rfl, rfl, hi, hg, HT1, HU1, HB3⟩ := hrel
      obtain ⟨g', rfl⟩ : ∃ g', gk = g' + 1 := ⟨gk - 1, by omega⟩
      have hil : (I.take i).length ≤ 1048576 := by rw [List.length_take]; omega
      have htz : t.size ≤ 16777216 := by
        have h1 := tplL_len (I.take i)
        have h2 := hIb.out i
        rw [size_of_list HT1.out]; omega
      have huz : u.size ≤ 2199023255552 := by
        have h1 := outL_len (grp_len src M) (I.take i)
        have h2 := hIb.out i
        have h3 : (I.take i).length * src.size ≤ 1048576 * 1048576 := Nat.mul_le_mul hil hsl
        rw [size_of_list HU1.out]; omega
      by_cases h1 : i < ts.length
      · by_cases h2 : i < gs.length
        · have hHC := HST.out (by omega)
          obtain ⟨bT, oT, rfl, hbT, hcT⟩ := hHC
          have HC1 := Lib.hid (hcT i h1); clear hcT
          have hHG := HGS.out (by omega)
          obtain ⟨bG, oG, rfl, hbG, hcG⟩ := hHG
          have c0 := (HB3.out.cell (p := ⟨bG, oG + i, none⟩) hbG).trans (hcG i h2); clear hcG
          have HIT := Lib.hid (hIt.out i h1 h2)
          have hxz : (ts.getD i ByteArray.empty).size ≤ 1048576 := Nat.le_trans (HMB.out i) hts
          obtain ⟨x, hx⟩ : ∃ x, ts.getD i ByteArray.empty = x := ⟨_, rfl⟩
          obtain ⟨z, hz0⟩ : ∃ z, gs.getD i 0 = z := ⟨_, rfl⟩
          rw [hx] at hxz
          rw [hz0] at c0
          have hc1' := HC1.out
          rw [hx] at hc1'
          have HC1 := Lib.hid hc1'; clear hc1'
          obtain ⟨n, hn0⟩ : ∃ n, z.natAbs % 100 = n := ⟨_, rfl⟩
          have hn : n < 100 := by omega
          have hzz : z.tmod 100 = (n : Int) ∨ (z.tmod 100 = -(n : Int) ∧ 0 < n) := by
            rcases Int.natAbs_eq z with e | e
            · left; rw [e, Int.tmod_eq_emod_of_nonneg (by omega)]; omega
            · by_cases h0 : n = 0
              · left; rw [e, Int.neg_tmod, Int.tmod_eq_emod_of_nonneg (by omega)]; omega
              · right; rw [e, Int.neg_tmod, Int.tmod_eq_emod_of_nonneg (by omega)]; omega
          have HX := Lib.hid hx
          have HN : Hid ((gs.getD i 0).natAbs % 100 = n) := Lib.hid (by rw [hz0]; exact hn0)
          have HZ := Lib.hid hz0
          clear hx hz0 hn0
          obtain ⟨gt, bg, hgt, hcg⟩ := CG.out n hn HPR2.out
          have HGT := Lib.hid hgt
          have CGW := Lib.hid hcg
          have hgz : gt.size ≤ 1048576 := by rw [size_of_list hgt]; exact Nat.le_trans (grp_len src M n) hsl
          clear hgt hcg
          obtain ⟨pl, hpf, hpl⟩ := plain_f (s := x) (by omega)
          have CPW : Hid (∀ W, Calls Tryd.prog 9 #[.string x] W fun e w' => e = .returned (.string pl) ∧ Below W.heap.size W w') := Lib.hid fun W => spec_TxPlainTemplate.calls (x.size + 1) x pl W hpf
          have hpz : pl.size ≤ 2097152 := by
            have h3 := plainL_len x.data.toList
            rw [size_of_list hpl]
            have h4 := size_of_list (s := x) rfl
            omega
          have HPL := Lib.hid hpl
          clear hpf hpl
          have hb1 : decide ((i : Int) < (ts.length : Int)) = true := decide_eq_true (by omega)
          have hb2 : decide ((i : Int) < (gs.length : Int)) = true := decide_eq_true (by omega)
          rcases hzz with hzz | hzz
          · have hz : z.tmod 100 = (n : Int) := hzz
            have hnb : decide ((n : Int) < 0) = false := decide_eq_false (by omega)
            clear hzz
            go_wp2_with (first
              | (go_at_call 8; refine (Calls.mono (CGW.out _ HB3.out) ?_); rintro e w1 ⟨rfl, hb4⟩; have HB4 := Lib.hid (HB3.out.trans (hb4.mono HB3.out.size)); clear hb4; have c1 := (HB4.out.cell (p := ⟨bT, oT + i, none⟩) hbT).trans HC1.out)
              | (go_at_call 9; refine (Calls.mono (CPW.out _) ?_); rintro e w2 ⟨rfl, hb5⟩; have HB5 := Lib.hid (HB4.out.trans (hb5.mono HB4.out.size)); clear hb5 c1)
              | (go_at_call 10; refine (Calls.mono (ref_c n hn _) ?_); rintro e w3 ⟨rs, rfl, hrs, hb6⟩; have HB6 := Lib.hid (HB5.out.trans (hb6.mono HB5.out.size)); have hrz : rs.size ≤ 5 := (by rw [size_of_list hrs]; exact refL_len n); have HRS := Lib.hid hrs; clear hb6 hrs; have c2 := (HB6.out.cell (p := ⟨bT, oT + i, none⟩) hbT).trans HC1.out))
            go_roundg g'
            case rel => exact ⟨i + 1, _, _, rfl, rfl, by go_num, by omega, by omega, Lib.hid (by
              rw [HIT.out, tplL_app, list_app, list_app, HT1.out, HPL.out, HRS.out, HX.out, HN.out]), Lib.hid (by
              rw [HIT.out, outL_app, list_app, list_app, HU1.out, HGT.out, HX.out, HN.out]), HB6⟩
            case measure => omega
          · obtain ⟨r, hz⟩ : ∃ r, z.tmod 100 = r := ⟨_, rfl⟩
            rw [hz] at hzz
            have hr0 : r < 0 := by omega
            have hr1 : -100 < r := by omega
            have hnb : decide (r < 0) = true := decide_eq_true hr0
            have hneg : -r = (n : Int) := by omega
            clear hzz
            go_wp2_with (first
              | (go_at_call 8; refine (Calls.mono (CGW.out _ HB3.out) ?_); rintro e w1 ⟨rfl, hb4⟩; have HB4 := Lib.hid (HB3.out.trans (hb4.mono HB3.out.size)); clear hb4; have c1 := (HB4.out.cell (p := ⟨bT, oT + i, none⟩) hbT).trans HC1.out)
              | (go_at_call 9; refine (Calls.mono (CPW.out _) ?_); rintro e w2 ⟨rfl, hb5⟩; have HB5 := Lib.hid (HB4.out.trans (hb5.mono HB4.out.size)); clear hb5 c1)
              | (go_at_call 10; refine (Calls.mono (ref_c n hn _) ?_); rintro e w3 ⟨rs, rfl, hrs, hb6⟩; have HB6 := Lib.hid (HB5.out.trans (hb6.mono HB5.out.size)); have hrz : rs.size ≤ 5 := (by rw [size_of_list hrs]; exact refL_len n); have HRS := Lib.hid hrs; clear hb6 hrs; have c2 := (HB6.out.cell (p := ⟨bT, oT + i, none⟩) hbT).trans HC1.out))
            go_roundg g'
            case rel => exact ⟨i + 1, _, _, rfl, rfl, by go_num, by omega, by omega, Lib.hid (by
              rw [HIT.out, tplL_app, list_app, list_app, HT1.out, HPL.out, HRS.out, HX.out, HN.out]), Lib.hid (by
              rw [HIT.out, outL_app, list_app, list_app, HU1.out, HGT.out, HX.out, HN.out]), HB6⟩
            case measure => omega
        · have hb1 : decide ((i : Int) < (ts.length : Int)) = true := decide_eq_true (by omega)
          have hb2 : decide ((i : Int) < (gs.length : Int)) = false := decide_eq_false (by omega)
          have hiI : i = I.length := by omega
          have HII := Lib.hid hiI; clear hiI
          go_wp2_with fail
          go_meet
          exact ⟨t, u, rfl, rfl, Lib.hid (by have := HT1.out; rw [HII.out, List.take_length] at this; exact this), Lib.hid (by have := HU1.out; rw [HII.out, List.take_length] at this; exact this), HB3⟩
      · have hb1 : decide ((i : Int) < (ts.length : Int)) = false := decide_eq_false (by omega)
        have hb2 : decide (i < ts.length) = false := decide_eq_false (by omega)
        have hiI : i = I.length := by omega
        have HII := Lib.hid hiI; clear hiI
        go_wp2_with fail
        go_meet
        exact ⟨t, u, rfl, rfl, Lib.hid (by have := HT1.out; rw [HII.out, List.take_length] at this; exact this), Lib.hid (by have := HU1.out; rw [HII.out, List.take_length] at this; exact this), HB3⟩
  case rest =>
    obtain ⟨t, u, rfl, rfl, HT1, HU1, HB3⟩ := hcut
    have htz : t.size ≤ 16777216 := by
      have h1 := tplL_len I
      have h2 := hIb.out I.length
      rw [List.take_length] at h2
      rw [size_of_list HT1.out]; omega
    have huz : u.size ≤ 2199023255552 := by
      have h1 := outL_len (grp_len src M) I
      have h2 := hIb.out I.length
      rw [List.take_length] at h2
      have h3 : I.length * src.size ≤ 1048576 * 1048576 := Nat.mul_le_mul (by omega) hsl
      rw [size_of_list HU1.out]; omega
    have hex : Ex (grpL src M) t.data.toList (outL (grpL src M) I) := by rw [HT1.out]; exact ex_tpl I hIs.out
    have hol : (outL (grpL src M) I).length ≤ 4398046511104 := by rw [← HU1.out, ← size_of_list rfl]; omega
    have hue := str_of_list HU1.out
    have HEX := Lib.hid hex
    have HUE := Lib.hid hue
    have HOL := Lib.hid hol
    clear hex hue hol
    have hbA : Hid (Below w.heap.size w (wc.alloc (.cells #[.string ⟨#[]⟩] 9))) := Lib.hid (HB3.out.alloc HB3.out.size _)
    have hT : Hid (Calls Tryd.prog 11 #[.slice (some ⟨wc.heap.size, 0, none⟩) 1 1, .slice none 0 0, .string t, .string src, .slice A M.length cap, .int .i64 0] (wc.alloc (.cells #[.string ⟨#[]⟩] 9)) fun e w' =>
      ∃ v', e = .returned (.tuple #[v', .bool true]) ∧ (convert 30 9 v').run Tryd.prog w' = .ok (.string u) w' ∧ Below w.heap.size w w') := by
      refine Lib.hid ((txE_c wc.heap.size t src A cap M (outL (grpL src M) I) _ (HU.out.below hbA.out) ?_ ((HIM.out.below hbA.out (Nat.le_refl _)).more hbA.out.size) HPR2.out.pairs HEX.out (CL.out _ hbA.out HPR2.out) (by omega) (by omega) (by omega) HOL.out).mono ?_)
      · simp
        rfl
      · rintro e w4 ⟨v4, rfl, ho4, hb4⟩
        refine ⟨v4, rfl, ?_, hbA.out.trans (hb4.mono hbA.out.size)⟩
        unfold OwnB at ho4
        rw [bcs_nums] at ho4
        rw [HUE.out]
        exact own_string Tryd.underlying30 Tryd.underlying5 Tryd.underlying9 ho4
    go_wp2_with (go_at_call 11; refine (Calls.mono hT.out ?_); rintro e w4 ⟨v4, rfl, hcv, hb4⟩; have HB4 := Lib.hid hb4; clear hb4)
    go_ret
    exact ⟨rfl, HB4.out⟩
end Go.Proofs.YtmgdlodnhmpbiaaDoor.Tx
