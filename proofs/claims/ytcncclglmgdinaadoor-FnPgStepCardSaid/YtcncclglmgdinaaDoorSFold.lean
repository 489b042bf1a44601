/- unicode.SimpleFold returns what the function SF of numbers says, at every number of 32 bits, where its three tables are laid as Go's text lays them. -/
import Derived.Test.YtcncclglmgdinaaDoorRows
import Derived.Test.YtcncclglmgdinaaDoorFold
import Derived.Test.YtcncclglmgdinaaDoorShelfC
import Derived.WalkKit
import Derived.Deep.LoopGhost
import Derived.Lib.Hide
import Derived.Shelf.Unicode.CaseLaid
namespace Go.Proofs.YtcncclglmgdinaaDoor.Fold
open Go.RowKit Go.Lib
set_option linter.unusedVariables false
/-- The tables of folding, in blocks below B. -/
structure FoldV (B : Nat) (w : World) : Prop where
 asc : ∀ i, i < 128 → w.cell? ⟨1, i, none⟩ = some (.int .u16 ((asciiL.getD i 0 : Nat) : Int))
 orb : ∃ R o c, R < B ∧ w.cell? ⟨2, 0, none⟩ = some (.slice (some ⟨R, o, none⟩) 94 c) ∧
  ∀ i, i < 94 → w.cell? ⟨R, o + i * 2, none⟩ = some (.int .u16 ((orbA.getD i (0, 0)).1 : Nat)) ∧ w.cell? ⟨R, o + i * 2 + 1, none⟩ = some (.int .u16 ((orbA.getD i (0, 0)).2 : Nat))
 cas : ∃ R o c, R < B ∧ w.cell? ⟨3, 0, none⟩ = some (.slice (some ⟨R, o, none⟩) 336 c) ∧ CaseTab R o caseA w
 asB : 1 < B
 orB : 2 < B
 caB : 3 < B
theorem FoldV.keep {B : Nat} {w w' : World} (h : FoldV B w) (hk : ∀ b o, b < B → w'.cell? ⟨b, o, none⟩ = w.cell? ⟨b, o, none⟩) : FoldV B w' := by
 obtain ⟨ha, ⟨R, o, c, hR, ho, ht⟩, ⟨R2, o2, c2, hR2, ho2, ht2⟩, b1, b2, b3⟩ := h
 refine ⟨fun i hi => by rw [hk _ _ b1]; exact ha i hi, ⟨R, o, c, hR, by rw [hk _ _ b2]; exact ho, fun i hi => by rw [hk _ _ hR, hk _ _ hR]; exact ht i hi⟩, ⟨R2, o2, c2, hR2, by rw [hk _ _ b3]; exact ho2, fun i hi => ?_⟩, b1, b2, b3⟩
 rw [hk _ _ hR2, hk _ _ hR2, hk _ _ hR2, hk _ _ hR2, hk _ _ hR2]
 exact ht2 i hi
theorem FoldV.below {B B' : Nat} {w w' : World} (h : FoldV B w) (hb : Below B' w w') (hB : B ≤ B') : FoldV B w' :=
 h.keep fun b o hlt => hb.cell (p := ⟨b, o, none⟩) (by show b < B'; omega)
theorem FoldV.drewN {B : Nat} {w : World} (h : FoldV B w) (n : Nat) : FoldV B (w.drewN n) := h.keep fun _ _ _ => rfl
theorem orb_le (i : Nat) (hi : i < 94) : (orbA.getD i (0, 0)).1 < 65536 ∧ (orbA.getD i (0, 0)).2 < 65536 := by
 have h : (orbL.all fun x => decide (x.1 < 65536) && decide (x.2 < 65536)) = true := by decide +kernel
 have hl : i < orbL.length := hi
 have hg : orbA.getD i (0, 0) = orbL[i] := by simp [orbA, Array.getD, hl]
 have := List.all_eq_true.1 h _ (List.getElem_mem hl)
 rw [hg]; simpa using this
theorem ascii_le (i : Nat) : asciiL.getD i 0 < 65536 := by
 have h : (asciiL.all fun x => decide (x < 65536)) = true := by decide +kernel
 rw [List.getD_eq_getElem?_getD]
 cases e : asciiL[i]? with
 | none => simp
 | some v => simpa using List.all_eq_true.1 h _ (List.mem_of_getElem? e)
theorem case_fits (i : Nat) (hi : i < 336) (c : Nat) (hc : c < 3) (r : Int) (h1 : ((caseA.getD i (0, 0, 0, 0, 0)).1 : Int) ≤ r) (h2 : r ≤ ((caseA.getD i (0, 0, 0, 0, 0)).2.1 : Int)) : wrap32 (convertR c r (caseA.getD i (0, 0, 0, 0, 0))) = convertR c r (caseA.getD i (0, 0, 0, 0, 0)) :=
 convert_fits _ (caseA_row i (by rw [caseA_size]; exact hi)) c hc r h1 h2
set_option maxRecDepth 100000 in
set_option maxHeartbeats 1000000 in
theorem sf_lo (r : Int) (w : World) (h : r < 0) :
  Calls Tryd.prog 63 #[.int .i32 r] w fun e w' => e = .returned (.int .i32 (SF r)) ∧ ∃ q, w' = w.drewN q := by
 have hs : SF r = r := by simp [SF, h]
 have HS := Lib.hid hs; clear hs
 go_enter Tryd.func63, Tryd.ntmps63
 go_wp2
 go_ret
 rw [HS.out]
 exact ⟨rfl, 0, rfl⟩
set_option maxRecDepth 100000 in
set_option maxHeartbeats 1000000 in
theorem sf_hi (r : Int) (w : World) (h : 1114111 < r) :
  Calls Tryd.prog 63 #[.int .i32 r] w fun e w' => e = .returned (.int .i32 (SF r)) ∧ ∃ q, w' = w.drewN q := by
 have hs : SF r = r := by unfold SF; rw [if_neg (by omega), if_pos h]
 have HS := Lib.hid hs; clear hs
 have h0 : ¬ r < 0 := by omega
 go_enter Tryd.func63, Tryd.ntmps63
 go_wp2
 go_ret
 rw [HS.out]
 exact ⟨rfl, 0, rfl⟩
set_option maxRecDepth 100000 in
set_option maxHeartbeats 1000000 in
theorem sf_ascii (n : Nat) (w : World) {B : Nat} (hF : FoldV B w) (h : n < 128) :
  Calls Tryd.prog 63 #[.int .i32 n] w fun e w' => e = .returned (.int .i32 (SF n)) ∧ ∃ q, w' = w.drewN q := by
 have hs : SF n = (asciiL.getD n 0 : Nat) := by unfold SF; rw [if_neg (by omega), if_neg (by omega), if_pos (by omega)]; simp
 have HS := Lib.hid hs; clear hs
 have hc := hF.asc n h
 have hl := ascii_le n
 generalize asciiL.getD n 0 = a at *
 go_enter Tryd.func63, Tryd.ntmps63
 go_wp2
 go_ret
 rw [HS.out]
 exact ⟨rfl, 0, rfl⟩
theorem orbIdx_bd (r : Int) : ∀ g lo hi, lo ≤ hi → lo ≤ orbIdx r g lo hi ∧ orbIdx r g lo hi ≤ hi := by
 intro g
 induction g with
 | zero => intro lo hi h; simp [orbIdx]; omega
 | succ g ih =>
  intro lo hi h
  simp only [orbIdx]
  split
  ·split
   ·have := ih ((lo + hi) / 2 + 1) hi (by omega); omega
   ·have := ih lo ((lo + hi) / 2) (by omega); omega
  ·omega
theorem lk_any (r : Int) (w : World) {R o c : Nat} (hT : CaseTab R o caseA w) :
  Calls Tryd.prog 78 #[.int .i32 r, .slice (some ⟨R, o, none⟩) 336 c] w fun e w' =>
   e = .returned (match lookupIdx caseA r (caseA.size + 1) 0 caseA.size with | some i => .pointer (some ⟨R, o + i * 5, none⟩) | none => .pointer none) ∧ w' = w := by
 have hok : CaseOk caseA := fun i hi => by
  have := caseA_row i hi
  simp only [rowFits, Bool.and_eq_true, decide_eq_true_eq] at this
  omega
 have h := Tryd.unicode_lookupCaseRange caseA R o c r w hT hok (by rw [caseA_size]; omega)
 have e : (Value.slice (some ⟨R, o, none⟩) 336 c) = .slice (some ⟨R, o, none⟩) caseA.size c := by rw [caseA_size]
 rw [e]
 refine h.mono ?_
 rintro e w' ⟨rfl, rfl⟩
 refine ⟨?_, rfl⟩
 generalize lookupIdx caseA r (caseA.size + 1) 0 caseA.size = z
 cases z <;> rfl
set_option maxRecDepth 100000 in
theorem cc_any (c i : Nat) (hc : c < 3) (hi : i < 336) (r : Int) (h1 : ((caseA.getD i (0, 0, 0, 0, 0)).1 : Int) ≤ r) (h2 : r ≤ ((caseA.getD i (0, 0, 0, 0, 0)).2.1 : Int)) (w : World) {R o : Nat} (hT : CaseTab R o caseA w) :
  Calls Tryd.prog 79 #[.int .i64 c, .int .i32 r, .pointer (some ⟨R, o + i * 5, none⟩)] w fun e w' => e = .returned (.int .i32 (convertR c r (caseA.getD i (0, 0, 0, 0, 0)))) ∧ ∃ q, w' = w.drewN q := by
 have hi' : i < caseA.size := by rw [caseA_size]; exact hi
 obtain ⟨t0, t1, t2, t3, t4⟩ := hT i hi'
 have hr := caseA_row i hi'
 simp only [rowFits, Bool.and_eq_true, decide_eq_true_eq] at hr
 have h := Tryd.unicode_convertCase c hc r R (o + i * 5) (caseA.getD i (0, 0, 0, 0, 0)) w h1 h2 (by omega) t0 (by
  match c, hc with
  | 0, _ => exact t2
  | 1, _ => exact t3
  | 2, _ => exact t4)
 rwa [case_fits i hi c hc r h1 h2] at h
theorem cc0 (i : Nat) (hi : i < 336) (r : Int) (h1 : ((caseA.getD i (0, 0, 0, 0, 0)).1 : Int) ≤ r) (h2 : r ≤ ((caseA.getD i (0, 0, 0, 0, 0)).2.1 : Int)) (w : World) {R o : Nat} (hT : CaseTab R o caseA w) :
  Calls Tryd.prog 79 #[.int .i64 0, .int .i32 r, .pointer (some ⟨R, o + i * 5, none⟩)] w fun e w' => e = .returned (.int .i32 (convertR 0 r (caseA.getD i (0, 0, 0, 0, 0)))) ∧ ∃ q, w' = w.drewN q := cc_any 0 i (by omega) hi r h1 h2 w hT
theorem cc1 (i : Nat) (hi : i < 336) (r : Int) (h1 : ((caseA.getD i (0, 0, 0, 0, 0)).1 : Int) ≤ r) (h2 : r ≤ ((caseA.getD i (0, 0, 0, 0, 0)).2.1 : Int)) (w : World) {R o : Nat} (hT : CaseTab R o caseA w) :
  Calls Tryd.prog 79 #[.int .i64 1, .int .i32 r, .pointer (some ⟨R, o + i * 5, none⟩)] w fun e w' => e = .returned (.int .i32 (convertR 1 r (caseA.getD i (0, 0, 0, 0, 0)))) ∧ ∃ q, w' = w.drewN q := cc_any 1 i (by omega) hi r h1 h2 w hT
set_option maxRecDepth 100000 in
set_option maxHeartbeats 4000000 in
theorem sf_mid (n : Nat) (w : World) {B : Nat} (hF : FoldV B w) (h0 : 128 ≤ n) (h1 : n ≤ 1114111) :
  Calls Tryd.prog 63 #[.int .i32 n] w fun e w' => e = .returned (.int .i32 (SF n)) ∧ ∃ q, w' = w.drewN q := by
 have hs : SF n = if orbIdx n 95 0 94 < 94 ∧ ((orbA.getD (orbIdx n 95 0 94) (0, 0)).1 : Int) = n then ((orbA.getD (orbIdx n 95 0 94) (0, 0)).2 : Int) else caseF n := by
  unfold SF; rw [if_neg (by omega), if_neg (by omega), if_neg (by omega)]
 have HS := Lib.hid hs; clear hs
 obtain ⟨R, o, c, hR, ho, ht⟩ := hF.orb
 obtain ⟨R2, o2, c2, hR2, ho2, ht2⟩ := hF.cas
 have HT := Lib.hid ht; clear ht
 have HT2 := Lib.hid ht2; clear ht2
 have HF := Lib.hid hF; clear hF
 have d1 : decide ((n : Int) < 0) = false := by simp
 have d2 : decide (1114111 < (n : Int)) = false := by simp; omega
 have d3 : decide ((n : Int) < 128) = false := by simp; omega
 have hbd := orbIdx_bd n 95 0 94 (by omega)
 obtain ⟨ANS, hA⟩ : ∃ a, orbIdx n 95 0 94 = a := ⟨_, rfl⟩
 rw [hA] at HS hbd
 have HA := Lib.hid hA; clear hA
 go_enter Tryd.func63, Tryd.ntmps63
 go_wp2
 go_loopg [3, 4] 95 (fun g s3 s4 wx => wx = w ∧ ∃ lo hi : Nat, s3 = .int .i64 lo ∧ s4 = .int .i64 hi ∧ lo ≤ hi ∧ hi ≤ 94 ∧ hi - lo < g ∧ orbIdx n g lo hi = ANS)
 case atStart => exact ⟨rfl, 0, 94, rfl, rfl, by omega, by omega, by omega, HA.out⟩
 case round =>
  obtain ⟨rfl, lo, hi, rfl, rfl, hlh, hhn, hg, hl⟩ := hrel
  by_cases hlt : lo < hi
  ·obtain ⟨g', rfl⟩ : ∃ g', gk = g' + 1 := ⟨gk - 1, by omega⟩
   have hz : (lo : Int) < (hi : Int) := by omega
   obtain ⟨m, hm⟩ : ∃ m, (lo + hi) / 2 = m := ⟨_, rfl⟩
   have hmr : lo ≤ m ∧ m < hi := by omega
   have hmz : ((lo : Int) + (hi : Int)) / 2 = (m : Int) := by omega
   obtain ⟨c0, c1⟩ := HT.out m (by omega)
   have hv := orb_le m (by omega)
   simp only [orbIdx, hlt, if_true, hm] at hl
   obtain ⟨Fr, hFr⟩ : ∃ Fr, (orbA.getD m (0, 0)).1 = Fr := ⟨_, rfl⟩
   rw [hFr] at c0 hl hv
   clear hFr c1
   by_cases hb : (Fr : Int) < (n : Int)
   ·rw [if_pos hb] at hl
    have HL := Lib.hid hl; clear hl hm
    go_wp2
    go_roundg g'
    case rel => exact ⟨rfl, m + 1, hi, by go_num, rfl, by omega, hhn, by omega, HL.out⟩
    case measure => omega
   ·rw [if_neg hb] at hl
    have HL := Lib.hid hl; clear hl hm
    go_wp2
    go_roundg g'
    case rel => exact ⟨rfl, lo, m, rfl, rfl, by omega, by omega, by omega, HL.out⟩
    case measure => omega
  ·obtain ⟨g', rfl⟩ : ∃ g', gk = g' + 1 := ⟨gk - 1, by omega⟩
   simp only [orbIdx, hlt, if_false] at hl
   subst hl
   by_cases hf : lo < 94
   ·obtain ⟨c0, c1⟩ := HT.out lo hf
    have hv := orb_le lo hf
    obtain ⟨Fr, hFr⟩ : ∃ Fr, (orbA.getD lo (0, 0)).1 = Fr := ⟨_, rfl⟩
    obtain ⟨To, hTo⟩ : ∃ To, (orbA.getD lo (0, 0)).2 = To := ⟨_, rfl⟩
    rw [hFr] at c0 hv HS
    rw [hTo] at c1 hv HS
    clear hFr hTo
    by_cases he : (Fr : Int) = (n : Int)
    ·have hs := HS.out
     rw [if_pos ⟨hf, he⟩] at hs
     have HS' := Lib.hid hs; clear hs
     have he' : ((Fr : Int) == (n : Int)) = true := by simpa using he
     clear he
     go_wp2
     go_ret
     rw [HS'.out]
     exact ⟨rfl, 0, rfl⟩
    ·have hs := HS.out
     rw [if_neg (fun h => he h.2)] at hs
     have HS' := Lib.hid hs; clear hs HS
     have he' : ((Fr : Int) == (n : Int)) = false := by simpa using he
     clear he
     cases hlk : lookupIdx caseA (n : Int) (caseA.size + 1) 0 caseA.size with
     | none =>
      have hcf : SF n = n := by rw [HS'.out]; unfold caseF; rw [hlk]
      have HC := Lib.hid hcf
      have HK := Lib.hid hlk
      clear hcf hlk HS'
      go_wp2_with fail
      refine (lk_any _ _ HT2.out).mono ?_
      rw [HK.out]
      rintro e w' ⟨rfl, rfl⟩
      go_wp2
      go_ret
      rw [HC.out]
      exact ⟨rfl, 0, rfl⟩
     | some i =>
      obtain ⟨hil, hlo, hhi⟩ := lookupIdx_some caseA (n : Int) _ _ _ i hlk
      rw [caseA_sz] at hil
      have hcf : SF n = if convertR 1 n (caseA.getD i (0, 0, 0, 0, 0)) = n then convertR 0 n (caseA.getD i (0, 0, 0, 0, 0)) else convertR 1 n (caseA.getD i (0, 0, 0, 0, 0)) := by rw [HS'.out]; unfold caseF; rw [hlk]
      have HK := Lib.hid hlk
      have C0 := fun w => Lib.hid (cc0 i hil n hlo hhi w (R := R2) (o := o2))
      have C1 := fun w => Lib.hid (cc1 i hil n hlo hhi w (R := R2) (o := o2))
      clear hlk HS' hlo hhi
      generalize convertR 1 n (caseA.getD i (0, 0, 0, 0, 0)) = y1 at *
      generalize convertR 0 n (caseA.getD i (0, 0, 0, 0, 0)) = y0 at *
      by_cases hy : y1 = (n : Int)
      ·rw [if_pos hy] at hcf
       have HC := Lib.hid hcf
       have hy' : (y1 != (n : Int)) = false := by simpa using hy
       clear hy hcf
       go_wp2_with fail
       refine (lk_any _ _ HT2.out).mono ?_
       rw [HK.out]
       rintro e w' ⟨rfl, rfl⟩
       go_wp2_with fail
       refine ((C1 _).out HT2.out).mono ?_
       rintro e w' ⟨rfl, q, rfl⟩
       go_wp2_with fail
       refine ((C0 (World.drewN _ q)).out (by exact HT2.out)).mono ?_
       rintro e w' ⟨rfl, q2, rfl⟩
       go_wp2
       go_ret
       rw [HC.out]
       exact ⟨rfl, q + q2, rfl⟩
      ·rw [if_neg hy] at hcf
       have HC := Lib.hid hcf
       have hy' : (y1 != (n : Int)) = true := by simpa using hy
       clear hy hcf
       go_wp2_with fail
       refine (lk_any _ _ HT2.out).mono ?_
       rw [HK.out]
       rintro e w' ⟨rfl, rfl⟩
       go_wp2_with fail
       refine ((C1 _).out HT2.out).mono ?_
       rintro e w' ⟨rfl, q, rfl⟩
       go_wp2
       go_ret
       rw [HC.out]
       exact ⟨rfl, q, rfl⟩
   ·have hs := HS.out
    rw [if_neg (fun h => hf h.1)] at hs
    have HS' := Lib.hid hs; clear hs HS
    cases hlk : lookupIdx caseA (n : Int) (caseA.size + 1) 0 caseA.size with
    | none =>
     have hcf : SF n = n := by rw [HS'.out]; unfold caseF; rw [hlk]
     have HC := Lib.hid hcf
     have HK := Lib.hid hlk
     clear hcf hlk HS'
     go_wp2_with fail
     refine (lk_any _ _ HT2.out).mono ?_
     rw [HK.out]
     rintro e w' ⟨rfl, rfl⟩
     go_wp2
     go_ret
     rw [HC.out]
     exact ⟨rfl, 0, rfl⟩
    | some i =>
     obtain ⟨hil, hlo, hhi⟩ := lookupIdx_some caseA (n : Int) _ _ _ i hlk
     rw [caseA_sz] at hil
     have hcf : SF n = if convertR 1 n (caseA.getD i (0, 0, 0, 0, 0)) = n then convertR 0 n (caseA.getD i (0, 0, 0, 0, 0)) else convertR 1 n (caseA.getD i (0, 0, 0, 0, 0)) := by rw [HS'.out]; unfold caseF; rw [hlk]
     have HK := Lib.hid hlk
     have C0 := fun w => Lib.hid (cc0 i hil n hlo hhi w (R := R2) (o := o2))
     have C1 := fun w => Lib.hid (cc1 i hil n hlo hhi w (R := R2) (o := o2))
     clear hlk HS' hlo hhi
     generalize convertR 1 n (caseA.getD i (0, 0, 0, 0, 0)) = y1 at *
     generalize convertR 0 n (caseA.getD i (0, 0, 0, 0, 0)) = y0 at *
     by_cases hy : y1 = (n : Int)
     ·rw [if_pos hy] at hcf
      have HC := Lib.hid hcf
      have hy' : (y1 != (n : Int)) = false := by simpa using hy
      clear hy hcf
      go_wp2_with fail
      refine (lk_any _ _ HT2.out).mono ?_
      rw [HK.out]
      rintro e w' ⟨rfl, rfl⟩
      go_wp2_with fail
      refine ((C1 _).out HT2.out).mono ?_
      rintro e w' ⟨rfl, q, rfl⟩
      go_wp2_with fail
      refine ((C0 (World.drewN _ q)).out (by exact HT2.out)).mono ?_
      rintro e w' ⟨rfl, q2, rfl⟩
      go_wp2
      go_ret
      rw [HC.out]
      exact ⟨rfl, q + q2, rfl⟩
     ·rw [if_neg hy] at hcf
      have HC := Lib.hid hcf
      have hy' : (y1 != (n : Int)) = true := by simpa using hy
      clear hy hcf
      go_wp2_with fail
      refine (lk_any _ _ HT2.out).mono ?_
      rw [HK.out]
      rintro e w' ⟨rfl, rfl⟩
      go_wp2_with fail
      refine ((C1 _).out HT2.out).mono ?_
      rintro e w' ⟨rfl, q, rfl⟩
      go_wp2
      go_ret
      rw [HC.out]
      exact ⟨rfl, q, rfl⟩
theorem sf_any (r : Int) (w : World) {B : Nat} (hF : FoldV B w) :
  Calls Tryd.prog 63 #[.int .i32 r] w fun e w' => e = .returned (.int .i32 (SF r)) ∧ ∃ q, w' = w.drewN q := by
 by_cases h1 : r < 0
 ·exact sf_lo r w h1
 by_cases h2 : 1114111 < r
 ·exact sf_hi r w h2
 obtain ⟨n, rfl⟩ := Int.eq_ofNat_of_zero_le (show 0 ≤ r by omega)
 by_cases h3 : n < 128
 ·exact sf_ascii n w hF h3
 ·exact sf_mid n w hF (by omega) (by omega)
end Go.Proofs.YtcncclglmgdinaaDoor.Fold
