/- The package's writing of a template: what the template stands for is appended. -/
import Derived.Test.YtmgdlodnhmpbiaaDoorTpEFnTxTemplate
namespace Go.Proofs.YtmgdlodnhmpbiaaDoor.Tx
open Go.RowKit Go.Lib Ext Mem Go.Proofs.YtmgdlodnhmpbiaaDoor.PFnTxTemplate Go.Proofs.YtmgdlodnhmpbiaaDoorW.PrintWords Go.Proofs.YtmgdlodnhmpbiaaDoorW.PrintLast Go.Proofs.YtmgdlodnhmpbiaaDoorW.PrintMore
set_option linter.unusedVariables false
set_option maxRecDepth 100000 in
set_option maxHeartbeats 8000000 in
theorem expand_c (re v0 : Value) (T src : ByteArray) (A : Option Addr) (cap : Nat) (M : List Int) (base : Nat) (d0 o0 : List UInt8) (w : World)
    (hT : ∀ w', Below base w w' → UTabs w') (hbase : base ≤ w.heap.size) (hown : OwnB w base v0 d0) (hM : IntsAt w base .i64 A M) (hP : PairsOf M src.size) (hex : Ex (grpL src M) T.data.toList o0)
    (hm : T.size ≤ 2147483647) (hs : src.size ≤ 2147483647) (hml : M.length ≤ 2147483647) (ho : d0.length + o0.length ≤ 4398046511104) :
    Calls Tryd.prog 49 #[re, v0, .string T, .slice none 0 0, .string src, .slice A M.length cap] w fun e w' =>
      ∃ v', e = .returned v' ∧ OwnB w' base v' (d0 ++ o0) ∧ Below base w w' := by
  have HT := Lib.hid hT; clear hT
  have HP := Lib.hid hP; clear hP
  have HX := Lib.hid hex; clear hex
  have HO := Lib.hid hown; clear hown
  have HM := Lib.hid hM; clear hM
  obtain ⟨out, hout⟩ : ∃ out, d0 ++ o0 = out := ⟨_, rfl⟩
  have hol : out.length ≤ 4398046511104 := by rw [← hout, List.length_append]; omega
  rw [hout]
  have HOUT := Lib.hid hout; clear hout
  go_enter Tryd.func49, Tryd.ntmps49
  go_upto_block 0 with fail
  go_cut [1, 2] (fun s1 s2 wx => ∃ (T' : ByteArray) (d : List UInt8), s2 = .string T' ∧ Hid (OwnB wx base s1 d) ∧ Hid (d ++ T'.data.toList = out) ∧ Hid (Below base w wx) ∧ T'.size ≤ 2147483647)
  case first =>
    go_wp2_with fail
    go_loopg [1, 2] (T.size + 1) (fun g s1 s2 wx => ∃ (T' : ByteArray) (d o : List UInt8), s2 = .string T' ∧ Hid (OwnB wx base s1 d) ∧ Hid (Ex (grpL src M) T'.data.toList o) ∧ Hid (d ++ o = out) ∧ Hid (Below base w wx) ∧ T'.size ≤ 2147483647 ∧ T'.size < g)
    case atStart => exact ⟨T, d0, o0, rfl, HO, HX, HOUT, Lib.hid (Below.refl _ _), hm, by omega⟩
    case round =>
      obtain ⟨T', d, o, rfl, HO1, HX1, HD1, HB1, hm1, hg1⟩ := hrel
      obtain ⟨g', rfl⟩ : ∃ g', gk = g' + 1 := ⟨gk - 1, by omega⟩
      have hT1 := HT.out _ HB1.out
      have HT1 := Lib.hid hT1; clear hT1
      have hbs : base ≤ wr.heap.size := by have := HB1.out.size; omega
      obtain ⟨L, hL⟩ : ∃ L, T'.data.toList = L := ⟨_, rfl⟩
      have hX := HX1.out
      rw [hL] at hX
      have HL := Lib.hid hL; clear hL HX1
      cases hX
      case fin h36 =>
        have H36 := Lib.hid h36; clear h36
        by_cases hz : T'.size = 0
        · have hd0 : decide (0 < T'.size) = false := decide_eq_false (by omega)
          have HZ := Lib.hid hz; clear hz
          go_wp2_with fail
          go_meet
          exact ⟨T', d, rfl, HO1, Lib.hid (by rw [HL.out]; exact HD1.out), HB1, hm1⟩
        · have hd0 : (0 : Int) < (T'.size : Int) := by omega
          have CZ := Lib.hid (zcut_no (s := T') (by rw [HL.out]; exact H36.out) hm1 wr)
          clear hz
          go_wp2_with (go_at_call 75; refine (Calls.mono CZ.out ?_); rintro e w1 ⟨rfl, hb1⟩; have HB2 := Lib.hid hb1; clear hb1)
          go_meet
          exact ⟨T', d, rfl, Lib.hid (HO1.out.below HB2.out), Lib.hid (by rw [HL.out]; exact HD1.out), Lib.hid (HB1.out.trans (HB2.out.mono hbs)), hm1⟩
      case dd b t o' hb hx =>
        have HX2 := Lib.hid hx; clear hx
        have hd0 : (0 : Int) < (T'.size : Int) := by have := pos_of HL.out (by simp); omega
        have CZ := Lib.hid (zcut_yes (s := T') HL.out hb hm1 wr)
        have hUl := tail_list HL.out
        have hbl := head_list HL.out
        have hUs : (T'.extract (b.length + 1) T'.size).size ≤ T'.size := by rw [ByteArray.size_extract]; omega
        have hbs2 : (T'.extract 0 b.length).size ≤ T'.size := by rw [ByteArray.size_extract]; omega
        generalize T'.extract (b.length + 1) T'.size = U at *
        generalize T'.extract 0 b.length = bb at *
        have hU0 := pos_of hUl (by simp)
        have hUe := toList_full (s := U) (by omega)
        have h36' := at0 hUl hU0
        have hU36 : ((U[0].toNat : Int) == 36) = true := by rw [h36']; rfl
        have hU1 : (U.extract 1 U.size).data.toList = t := tail_list (b := []) hUl
        have hUm : (U.extract 1 U.size).size < U.size := by rw [ByteArray.size_extract]; omega
        have HUL := Lib.hid hUl; have HU1 := Lib.hid hU1; have HBL := Lib.hid hbl
        have hdl : d.length + bb.size ≤ 4398046511104 := by
          have h1 := HD1.out
          have h2 := size_of_list HBL.out
          rw [← h1] at hol
          simp only [List.length_append, List.length_cons] at hol
          omega
        have hdl2 : (d ++ bb.data.toList).length + 1 ≤ 4398046511104 := by
          have h1 := HD1.out
          rw [← h1] at hol
          rw [HBL.out]
          simp only [List.length_append, List.length_cons] at hol ⊢
          omega
        clear hUl hU1 hbl h36'
        go_wp2_with (first
          | (go_at_call 75; refine (Calls.mono CZ.out ?_); rintro e w1 ⟨rfl, hb1⟩; have HO2 := Lib.hid (HO1.out.below hb1); have HB2 := Lib.hid (HB1.out.trans (hb1.mono hbs)); clear hb1)
          | (at_builtin; refine wp_strB rfl _ _ rfl rfl HO2.out bb rfl (by omega) (by have := HB2.out.size; omega) ?_; intro v2 w2 ho2 hb2; have HO3 := Lib.hid ho2; have HB3 := Lib.hid (HB2.out.trans hb2); clear ho2 hb2)
          | (at_builtin; refine wp_oneB rfl _ _ rfl rfl HO3.out 36 rfl (by omega) (by have := HB3.out.size; omega) ?_; intro v3 w3 ho3 hb3; have HO4 := Lib.hid ho3; have HB4 := Lib.hid (HB3.out.trans hb3); clear ho3 hb3))
        go_roundg g'
        case rel => exact ⟨_, d ++ bb.data.toList ++ [36], o', rfl, HO4, Lib.hid (by rw [HU1.out]; exact HX2.out), Lib.hid (by rw [HBL.out]; have := HD1.out; simpa using this), HB4, by omega, by omega⟩
        case measure => omega
      case ref b t o' n hb hn hx =>
        have HX2 := Lib.hid hx; clear hx
        have hd0 : (0 : Int) < (T'.size : Int) := by have := pos_of HL.out (by simp [refL]); omega
        have hL2 : T'.data.toList = b ++ 36 :: (123 :: (decL n ++ 125 :: t)) := by rw [HL.out]; simp [refL]
        have CZ := Lib.hid (zcut_yes (s := T') hL2 hb hm1 wr)
        have hUl := tail_list hL2
        have hbl := head_list hL2
        clear hL2
        have hUs : (T'.extract (b.length + 1) T'.size).size ≤ T'.size := by rw [ByteArray.size_extract]; omega
        have hbs2 : (T'.extract 0 b.length).size ≤ T'.size := by rw [ByteArray.size_extract]; omega
        generalize T'.extract (b.length + 1) T'.size = U at *
        generalize T'.extract 0 b.length = bb at *
        have hU0 := pos_of hUl (by simp)
        have hUe := toList_full (s := U) (by omega)
        have h36' := at0 hUl hU0
        have hU36 : ((U[0].toNat : Int) == 36) = false := by rw [h36']; rfl
        have CE : Hid (∀ W1, UTabs W1 → Calls Tryd.prog 76 #[.string U] W1 fun e w' => ∃ nm rs : ByteArray, e = .returned (.tuple #[.string nm, .int .i64 (n : Int), .string rs, .bool true]) ∧ rs.data.toList = t ∧ Below W1.heap.size W1 w') := Lib.hid fun W1 hW => ext_ref U W1 hW (by omega) hn hUl
        have HUL := Lib.hid hUl; have HBL := Lib.hid hbl
        have hul : t.length < U.size := by rw [size_of_list HUL.out]; simp; omega
        have hdl : d.length + bb.size ≤ 4398046511104 := by
          have h1 := HD1.out
          have h2 := size_of_list HBL.out
          rw [← h1] at hol
          simp only [List.length_append] at hol
          omega
        have HD2 : Hid ((d ++ bb.data.toList) ++ (grpL src M n ++ o') = out) := Lib.hid (by rw [HBL.out]; have := HD1.out; simpa using this)
        clear hUl hbl h36' HD1
        have hnz : (0 : Int) ≤ (n : Int) := by omega
        by_cases hin : 2 * n + 1 < M.length
        · have hM1 := HM.out
          obtain ⟨bM, oM, rfl, hbM, hcM⟩ := hM1 (by omega)
          clear hM1
          have hc0 := hcM (2 * n) (by omega)
          have hc1 := hcM (2 * n + 1) hin
          clear hcM
          have hk1 : (2 * (n : Int)).toNat = 2 * n := by omega
          have hk2 : (2 * (n : Int) + 1).toNat = 2 * n + 1 := by omega
          have hmn : 2 * (n : Int) + 1 < (M.length : Int) := by omega
          have hmn0 : 2 * (n : Int) < (M.length : Int) := by omega
          have hin0 : 2 * n < M.length := by omega
          have hw1 : IntKind.i64.wrap (2 * (n : Int)) = 2 * (n : Int) := (by rw [IntKind.wrap_i64]; omega)
          have hw2 : IntKind.i64.wrap (2 * (n : Int) + 1) = 2 * (n : Int) + 1 := (by rw [IntKind.wrap_i64]; omega)
          have hmn1 : (0 : Int) ≤ 2 * (n : Int) := by omega
          have hmn2 : (0 : Int) ≤ 2 * (n : Int) + 1 := by omega
          by_cases hneg : M.getD (2 * n) 0 < 0
          · have HG : Hid (grpL src M n = []) := Lib.hid (if_neg (by omega))
            obtain ⟨x, hx⟩ : ∃ x, M.getD (2 * n) 0 = x := ⟨_, rfl⟩
            rw [hx] at hc0 hneg
            have HC0 := Lib.hid hc0; have HC1 := Lib.hid hc1
            clear hx hc0 hc1
            have hxb : decide (0 ≤ x) = false := decide_eq_false (by omega)
            go_wp2_with (first
            | (go_at_call 75; refine (Calls.mono CZ.out ?_); rintro e w1 ⟨rfl, hb1⟩; have HO2 := Lib.hid (HO1.out.below hb1); have HB2 := Lib.hid (HB1.out.trans (hb1.mono hbs)); clear hb1)
            | (at_builtin; refine wp_strB rfl _ _ rfl rfl HO2.out bb rfl (by omega) (by have := HB2.out.size; omega) ?_; intro v2 w2 ho2 hb2; have HO3 := Lib.hid ho2; have HB3 := Lib.hid (HB2.out.trans hb2); clear ho2 hb2)
            | (go_at_call 76; refine (Calls.mono (CE.out _ (HT.out _ HB3.out)) ?_); rintro e w3 ⟨nm, rs, rfl, hrs, hb3⟩; have HO4 := Lib.hid (HO3.out.below hb3); have HB4 := Lib.hid (HB3.out.trans (hb3.mono (by have := HB3.out.size; omega))); clear hb3; have hrz : rs.size < U.size := (by rw [size_of_list hrs]; exact hul); have HRS := Lib.hid hrs; clear hrs; have c0 := (HB4.out.cell (p := ⟨bM, oM + 2 * n, none⟩) hbM).trans HC0.out; have c1 := (HB4.out.cell (p := ⟨bM, oM + (2 * n + 1), none⟩) hbM).trans HC1.out))
            go_roundg g'
            case rel => exact ⟨rs, d ++ bb.data.toList, o', rfl, HO4, Lib.hid (by rw [HRS.out]; exact HX2.out), Lib.hid (by have := HD2.out; rw [HG.out] at this; simpa using this), HB4, by omega, by omega⟩
            case measure => omega
          · obtain ⟨a, ha⟩ : ∃ a : Nat, M.getD (2 * n) 0 = a := ⟨_, (Int.toNat_of_nonneg (by omega)).symm⟩
            have hp := HP.out n hin (by omega)
            obtain ⟨e, he⟩ : ∃ a : Nat, M.getD (2 * n + 1) 0 = a := ⟨_, (Int.toNat_of_nonneg (by omega)).symm⟩
            rw [ha, he] at hp
            have hle : a ≤ e := by omega
            have hes : e ≤ src.size := by omega
            have HG : Hid (grpL src M n = (src.extract a e).data.toList) := Lib.hid (by unfold grpL; rw [if_pos (by omega), ha, he]; rfl)
            rw [ha] at hc0
            rw [he] at hc1
            have HC0 := Lib.hid hc0; have HC1 := Lib.hid hc1
            have hgl : (d ++ bb.data.toList).length + (src.extract a e).size ≤ 4398046511104 := by
              have h1 := HD2.out
              have h2 := size_of_list (s := src.extract a e) rfl
              rw [HG.out] at h1
              rw [← h1] at hol
              simp only [List.length_append] at hol ⊢
              omega
            have hxb : decide ((0 : Int) ≤ (a : Int)) = true := decide_eq_true (by omega)
            have hnb : ∀ W, Sem.run Tryd.prog (binOp BinOp.neq 30 (Value.slice none 0 0) (Value.slice none 0 0)) W = .ok (.bool false) W := fun W => by kernel_rfl
            have HGL := Lib.hid hgl
            clear hp ha he hc0 hc1 hneg hgl
            go_wp2_with (first
            | (go_at_call 75; refine (Calls.mono CZ.out ?_); rintro e w1 ⟨rfl, hb1⟩; have HO2 := Lib.hid (HO1.out.below hb1); have HB2 := Lib.hid (HB1.out.trans (hb1.mono hbs)); clear hb1)
            | (at_builtin; refine wp_strB rfl _ _ rfl rfl HO2.out bb rfl (by omega) (by have := HB2.out.size; omega) ?_; intro v2 w2 ho2 hb2; have HO3 := Lib.hid ho2; have HB3 := Lib.hid (HB2.out.trans hb2); clear ho2 hb2)
            | (go_at_call 76; refine (Calls.mono (CE.out _ (HT.out _ HB3.out)) ?_); rintro e w3 ⟨nm, rs, rfl, hrs, hb3⟩; have HO4 := Lib.hid (HO3.out.below hb3); have HB4 := Lib.hid (HB3.out.trans (hb3.mono (by have := HB3.out.size; omega))); clear hb3; have hrz : rs.size < U.size := (by rw [size_of_list hrs]; exact hul); have HRS := Lib.hid hrs; clear hrs; have c0 := (HB4.out.cell (p := ⟨bM, oM + 2 * n, none⟩) hbM).trans HC0.out; have c1 := (HB4.out.cell (p := ⟨bM, oM + (2 * n + 1), none⟩) hbM).trans HC1.out))
            go_region_held3 (fun w' => w'.cell? ⟨bM, oM + 2 * n, none⟩ = some (.int .i64 a) ∧ w'.cell? ⟨bM, oM + (2 * n + 1), none⟩ = some (.int .i64 e)) (go_keep)
              ((refine step_strB (s := src.extract a e) (o := _) rfl (.tmp 94) (.tmp 107) ?_ ?_ HO4.out.drew ?_ ?_ ?_ ?_; (exact rfl); (simp [Act.eval]); (simp [Act.eval]); (exact (Nat.le_trans HGL.out (by decide))); (have := HB4.out.size; show base ≤ w3.heap.size; omega); intro v4 w4 ho4 hb4; have d0 := (hb4.cell (p := ⟨bM, oM + 2 * n, none⟩) hbM).trans c0; have d1 := (hb4.cell (p := ⟨bM, oM + (2 * n + 1), none⟩) hbM).trans c1; have HB5 := Lib.hid (below_drewT HB4.out hb4); have HO5 := Lib.hid ho4; clear hb4 ho4))
            go_wp2_with fail
            go_roundg g'
            case rel => exact ⟨rs, d ++ bb.data.toList ++ (src.extract a e).data.toList, o', rfl, HO5, Lib.hid (by rw [HRS.out]; exact HX2.out), Lib.hid (by have := HD2.out; rw [HG.out] at this; simpa using this), HB5, by omega, by omega⟩
            case measure => omega
        · have HG : Hid (grpL src M n = []) := Lib.hid (if_neg (by omega))
          have hinb : decide (2 * (n : Int) + 1 < (M.length : Int)) = false := decide_eq_false (by omega)
          clear hin
          go_wp2_with (first
            | (go_at_call 75; refine (Calls.mono CZ.out ?_); rintro e w1 ⟨rfl, hb1⟩; have HO2 := Lib.hid (HO1.out.below hb1); have HB2 := Lib.hid (HB1.out.trans (hb1.mono hbs)); clear hb1)
            | (at_builtin; refine wp_strB rfl _ _ rfl rfl HO2.out bb rfl (by omega) (by have := HB2.out.size; omega) ?_; intro v2 w2 ho2 hb2; have HO3 := Lib.hid ho2; have HB3 := Lib.hid (HB2.out.trans hb2); clear ho2 hb2)
            | (go_at_call 76; refine (Calls.mono (CE.out _ (HT.out _ HB3.out)) ?_); rintro e w3 ⟨nm, rs, rfl, hrs, hb3⟩; have HO4 := Lib.hid (HO3.out.below hb3); have HB4 := Lib.hid (HB3.out.trans (hb3.mono (by have := HB3.out.size; omega))); clear hb3; have hrz : rs.size < U.size := (by rw [size_of_list hrs]; exact hul); have HRS := Lib.hid hrs; clear hrs))
          go_roundg g'
          case rel => exact ⟨rs, d ++ bb.data.toList, o', rfl, HO4, Lib.hid (by rw [HRS.out]; exact HX2.out), Lib.hid (by have := HD2.out; rw [HG.out] at this; simpa using this), HB4, by omega, by omega⟩
          case measure => omega
  case rest =>
    obtain ⟨T', d, rfl, HO1, HD1, HB1, hm1⟩ := hcut
    have hdl : d.length + T'.size ≤ 4398046511104 := by
      have h1 := HD1.out
      have h2 := size_of_list (s := T') rfl
      rw [← h1, List.length_append] at hol
      omega
    go_wp2_with (at_builtin; refine wp_strB rfl _ _ rfl rfl HO1.out T' rfl (by omega) (by have := HB1.out.size; omega) ?_; intro v2 w2 ho2 hb2; have HO3 := Lib.hid ho2; have HB3 := Lib.hid (HB1.out.trans hb2); clear ho2 hb2)
    go_ret
    exact ⟨_, rfl, by rw [← HD1.out]; exact HO3.out, HB3.out⟩
end Go.Proofs.YtmgdlodnhmpbiaaDoor.Tx
