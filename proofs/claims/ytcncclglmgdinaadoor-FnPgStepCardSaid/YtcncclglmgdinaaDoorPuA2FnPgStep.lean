/- The threads' machine with a queue to which instructions were added: the walk of 'zzMachine'. The threads' machine: the walk of 'ZZStep'. -/
import Derived.Test.YtcncclglmgdinaaDoorPtEFnPgStep
import Derived.StillTailTactics
import Derived.Deep.CutBlock
import Derived.Test.YtcncclglmgdinaaDoorPuCFnPgStep
import Derived.Deep.Onto
namespace Go.Proofs.YtcncclglmgdinaaDoor.Ps
open Go.RowKit Mem Go.Proofs.YtcncclglmgdinaaDoor.PFnPgStep Go.Proofs.YtcncclglmgdinaaDoorW.PrintWords Go.Proofs.YtcncclglmgdinaaDoorW.PrintLast Go.Proofs.YtcncclglmgdinaaDoorW.PrintMore
set_option linter.unusedVariables false
theorem Acc.drop {F : Fix} {w w' : World} {cs cs' : Array Value} {pv' : Value} {l l' : List Nat} {ths ths2 : List Value} {P0 P : List Nat} {t0 t : Option Nat} (h : Acc F w cs l ths P0 t0 w' cs' pv' l' ths2 P t) : Acc F w cs l ths P0 t0 w' cs' pv' l' ths2 P none := by
 have n1 := List.nodup_append.1 h.nd
 refine ⟨h.ms, h.ent, ?_, fun x hx => h.sub x ?_, h.fr, h.csr, fun b hb => by simp at hb, h.le, h.pre, h.tl, h.sz⟩
 ·rw [List.nodup_append]
  refine ⟨?_, n1.2.1, fun a ha b hb => n1.2.2 a ?_ b hb⟩
  ·have := (List.nodup_append.1 n1.1).1
   simpa [AV] using this
  ·simp only [AV, Option.toList_none, List.append_nil] at ha
   exact List.mem_append_left _ ha
 ·rcases List.mem_append.1 hx with hx | hx
  ·simp only [AV, Option.toList_none, List.append_nil] at hx
   exact List.mem_append_left _ (List.mem_append_left _ hx)
  ·exact List.mem_append_right _ hx
theorem q_new {w : World} {n s d : Nat} {CS CE : Array Value} (hs : w.heap[s]? = some (.cells CS 75 (0, 0))) (hd : w.heap[d]? = some (.cells CE 135 (0, 0))) (h1 : CS.size = n) (h2 : ∀ i, i < n → CS[i]? = some (.int .u32 0)) (h3 : CE.size = n * 2) : QOk w n s d [] [] :=
 ⟨⟨CS, hs, h1, fun i hi => ⟨0, h2 i hi, by omega⟩, fun j hj => by simp at hj⟩, ⟨CE, hd, h3, fun j hj => by simp at hj⟩, rfl, Nat.zero_le _, by simp⟩
/-- A machine as it was made, its captures cut off. -/
theorem start_ms {w0 w : World} {B bR bP b n s0 d0 s1 d1 gm nc : Nat} {CS CE : Array Value} (hM : w.heap[b]? = some (.cells (machC (.pointer (some ⟨bR, 0, none⟩)) (.pointer (some ⟨bP, 0, none⟩)) (.slice (some ⟨s0, 0, none⟩) n n) (.slice (some ⟨d0, 0, none⟩) 0 n) (.slice (some ⟨s1, 0, none⟩) n n) (.slice (some ⟨d1, 0, none⟩) 0 n) (.slice (some ⟨gm, 0, none⟩) nc nc)) 94 (0, 0)))
  (hs : w.heap[s0]? = some (.cells CS 75 (0, 0))) (hd : w.heap[d0]? = some (.cells CE 135 (0, 0))) (h1 : CS.size = n) (h2 : ∀ i, i < n → CS[i]? = some (.int .u32 0)) (h3 : CE.size = n * 2) (hb : Below B w0 w) (gM : B ≤ b) (gs : B ≤ s0) (gd : B ≤ d0) :
  MS w0 (w.setCell ⟨b, 8, none⟩ (.slice (some ⟨gm, 0, none⟩) 0 nc)) B b bP 2 n s0 d0 nc (machC (.pointer (some ⟨bR, 0, none⟩)) (.pointer (some ⟨bP, 0, none⟩)) (.slice (some ⟨s0, 0, none⟩) n n) (.slice (some ⟨d0, 0, none⟩) 0 n) (.slice (some ⟨s1, 0, none⟩) n n) (.slice (some ⟨d1, 0, none⟩) 0 n) (.slice (some ⟨gm, 0, none⟩) 0 nc)) (.slice none 0 0) [] [] [] :=
 ⟨heap_setCell_same w b 8 _ _ _ hM, rfl, rfl, rfl, rfl, rfl, ⟨_, rfl⟩, q_new (Mem.blk_set_ne hs (p := ⟨b, 8, none⟩) (ne_ty hs hM (by decide)) _) (Mem.blk_set_ne hd (p := ⟨b, 8, none⟩) (ne_ty hd hM (by decide)) _) h1 h2 h3, World.ownsRow_nil _ _ _ _, by simp, hb.setCell gM _, gM, gs, gd, by simp, Or.inl rfl⟩
section
variable (L : List In) (bP start : Nat) (ncap : Int) (g cI : Nat) (R : List Value) (wb : World)
set_option maxRecDepth 100000 in
set_option maxHeartbeats 16000000 in
theorem zzm_c (w : World) (S : SQ L ncap start) (hPF : PF wb w bP start ncap (.slice (some ⟨g, 0, none⟩) (L.map cvt).length cI) R (L.map cvt)) (hm : MSz w) (hG : 0 < w.heap.size) (r1 r2 cond : Int) (h1 : -1 ≤ r1 ∧ r1 ≤ 1114111) (h2 : -1 ≤ r2 ∧ r2 ≤ 1114111) (hcond : spec_CondBetween.f 10 r1 r2 = some cond) (lg : Bool)
  (Ap : Option Addr) (cp : Nat) (pcs : List Nat) (hA : IntsAt w w.heap.size .u32 Ap (pcs.map fun (x : Nat) => (x : Int))) (hpl : pcs.length ≤ 1000000) (hp : ∀ x ∈ pcs, x < L.length) (k : Nat) (l0 : List Nat) (hk : reachF k L cond pcs [] = some l0) :
  Calls Tryd.prog 39 #[.pointer (some ⟨bP, 0, none⟩), .slice Ap pcs.length cp, .int .i32 r1, .int .i32 r2, .bool lg] w fun e w' => ∃ (bM bR s0 d0 s1 d1 n nc : Nat) (cs : Array Value) (pv : Value) (ths : List Value) (cr CS CE : Array Value),
   e = .returned (.pointer (some ⟨bM, 0, none⟩)) ∧ MS w w' w.heap.size bM bP 2 n s0 d0 nc cs pv l0 ths [] ∧ (∀ j, j < l0.length → EntOk L w.heap.size g w' (l0.getD j 0) (ths.getD j (.pointer none))) ∧ (thb ths).Nodup ∧ cs[0]? = some (.pointer (some ⟨bR, 0, none⟩)) ∧ w'.heap[bR]? = some (.cells cr 132 (0, 0)) ∧ cr[15]? = some (.bool lg) ∧
   cs[4]? = some (.slice (some ⟨s1, 0, none⟩) n n) ∧ cs[5]? = some (.slice (some ⟨d1, 0, none⟩) 0 n) ∧ w'.heap[s1]? = some (.cells CS 75 (0, 0)) ∧ w'.heap[d1]? = some (.cells CE 135 (0, 0)) ∧ CS.size = n ∧ (∀ i, i < n → CS[i]? = some (.int .u32 0)) ∧ CE.size = n * 2 ∧ s0 ≠ s1 ∧ d0 ≠ d1 ∧ w.heap.size ≤ s1 ∧ w.heap.size ≤ d1 ∧ L.length ≤ n ∧ n ≤ 2048 ∧ nc ≤ 2002 ∧ Good L.length l0 := by
 have hG1 : 0 < (w.alloc (.cells #[.string ⟨#[]⟩] 9)).heap.size := by rw [size1]; omega
 have hb0 : Below w.heap.size w (w.alloc (.cells #[.string ⟨#[]⟩] 9)) := (Below.refl _ _).alloc (Nat.le_refl _) _
 have hm1 : MSz (w.alloc (.cells #[.string ⟨#[]⟩] 9)) := fun i hi => low hb0 (hm i hi)
 have CZ := Lib.hid (zzOf_c L wb bP start ncap g cI R _ S (hPF.below hb0) hm1 hG1 (some ⟨w.heap.size, 0, none⟩) 1 lg)
 have HB0 := Lib.hid hb0; have HM := Lib.hid hm; have HS := Lib.hid S; have HP := Lib.hid hPF; have HA := Lib.hid hA; have HPC := Lib.hid hp; have HK := Lib.hid hk; have HCO := Lib.hid hcond
 have hn0 := S.n0; have hn1 := S.n1
 clear hb0 hm hm1 S hPF hA hp hk hcond
 go_enter Tryd.func39, Tryd.ntmps39
 go_upto_region 2 with (first
  | (go_at_call 47; refine (Calls.mono CZ.out ?_); rintro e w2 ⟨bR, mp, cr, rfl, hR, q1, q10, q11, q15, hmp, hL2, hge, hb2⟩; have HB2 := Lib.hid (HB0.out.trans (hb2.mono HB0.out.size)); have HR := Lib.hid hR; have Q15 := Lib.hid q15; have CG := Lib.hid (get_c w2 bR bP mp ncap cr hR q1 q10 q11 hmp hn0 hn1 (fun i hi => low HB2.out (HM.out i hi)) (Nat.lt_of_lt_of_le hG HB2.out.size)); clear hb2 hR q1 q10 q11 q15 CZ)
  | (go_at_call 58; refine (Calls.mono CG.out ?_); rintro e w3 ⟨s0, d0, s1, d1, gm, nc, CS, CE, rfl, hnc, hM, hS0, hD0, hS1, hD1, hCS, hCS2, hCE, hns, hnd, hgs0, hgd0, hgs1, hgd1, hb3⟩))
 have hgB := HB2.out.size
 have HB3 := Lib.hid (HB2.out.trans (hb3.mono hgB))
 have HR3 := Lib.hid (Mem.blk_set_ne ((hb3.block _ (lt_of_block HR.out)).trans HR.out) (p := ⟨w2.heap.size, 8, none⟩) (fun e => by have h1 : bR = w2.heap.size := e; have := lt_of_block HR.out; omega) (.slice (some ⟨gm, 0, none⟩) 0 nc))
 have hms := start_ms (w0 := w) (B := w.heap.size) hM hS0 hD0 hCS hCS2 hCE HB3.out hgB (by omega) (by omega)
 have HS1 := Lib.hid (Mem.blk_set_ne hS1 (p := ⟨w2.heap.size, 8, none⟩) (ne_ty hS1 hM (by decide)) (.slice (some ⟨gm, 0, none⟩) 0 nc))
 have HD1 := Lib.hid (Mem.blk_set_ne hD1 (p := ⟨w2.heap.size, 8, none⟩) (ne_ty hD1 hM (by decide)) (.slice (some ⟨gm, 0, none⟩) 0 nc))
 have CI := Lib.hid (init_c w3 w2.heap.size gm nc nc _ hM rfl rfl)
 have HMS := Lib.hid hms
 have hn48 : mszN mp ≤ 2048 := by
  rcases (show mp = 0 ∨ mp = 1 ∨ mp = 2 by omega) with rfl | rfl | rfl <;> decide
 have HZ := Lib.hid hCS2; have HCS := Lib.hid hCS; have HCE := Lib.hid hCE
 have hnc2 : nc ≤ 2002 := by omega
 have hgs1' : w.heap.size ≤ s1 := by omega
 have hgd1' : w.heap.size ≤ d1 := by omega
 clear hb3 hM hS0 hD0 hS1 hD1 hms hCS hCS2 hCE HR CG HB2 HB3 hgs0 hgd0 hgs1 hgd1
 generalize w2.heap.size = bM at *
 generalize mszN mp = n at *
 go_upto_region 3 with (go_at_call 59; refine (Calls.mono CI.out ?_); rintro e w4 ⟨rfl, hw4⟩; subst hw4)
 generalize w3.setCell ⟨bM, 8, none⟩ (.slice (some ⟨gm, 0, none⟩) 0 nc) = w4 at *
 clear CI
 have CF := Lib.hid (regexp_newLazyFlag.calls r1 r2 (flagF r1 r2) w4 (flag_f r1 r2))
 go_upto_region 4 with (go_at_call 40; refine (Calls.mono CF.out ?_); rintro e w5 ⟨rfl, hq⟩; have HBQ := Lib.hid (show Below w4.heap.size w4 w5 by obtain ⟨q, rfl⟩ := hq.out; exact Mem.below_drewN (Below.refl _ _) q); clear hq)
 have hbq := HBQ.out
 have hbW : Below w4.heap.size w4 (w5.alloc (.cells #[.int .u64 (flagF r1 r2)] 96)) := hbq.alloc hbq.size _
 have HC5 := Lib.hid (Mem.blk_new w5 (.cells #[.int .u64 (flagF r1 r2)] 96))
 have HMS5 := Lib.hid (HMS.out.below hbW)
 have HR5 := Lib.hid ((hbW.block _ (lt_of_block HR3.out)).trans HR3.out)
 have HS5 := Lib.hid ((hbW.block _ (lt_of_block HS1.out)).trans HS1.out)
 have HD5 := Lib.hid ((hbW.block _ (lt_of_block HD1.out)).trans HD1.out)
 have CADD : Hid _ := Lib.hid (fun (Ac : Option Addr) (cc : Nat) => addm_c (⟨L, w, w.heap.size, bM, bP, 2, n, s0, d0, nc, g⟩ : Fix) start ncap cI R wb cond (flagF r1 r2) w5.heap.size 0 Ac cc HS.out rfl HP.out hL2 (by show n ≤ 1000000; omega) (by show nc ≤ 1000000; omega) (fun op a b => flag_match r1 r2 op h1 h2 ⟨a, b⟩ cond HCO.out) k)
 have HA0 := Lib.hid (Acc.start (F := (⟨L, w, w.heap.size, bM, bP, 2, n, s0, d0, nc, g⟩ : Fix)) (t0 := none) HMS5.out (by simp [AV]) (fun b hb => by simp at hb))
 clear hbq hbW HBQ HMS HR3 HS1 HD1 CF
 generalize w5.alloc (.cells #[.int .u64 (flagF r1 r2)] 96) = W0 at *
 generalize w5.heap.size = bC at *
 go_wp2_with fail
 go_loopg [27] (pcs.length + 1) (fun gg s27 wx => ∃ (i : Nat) (cs1 : Array Value) (pv1 : Value) (l1 : List Nat) (ths1 : List Value) (P1 : List Nat), s27 = .int .i64 i ∧ i ≤ pcs.length ∧ pcs.length - i < gg ∧ Hid (Acc (⟨L, w, w.heap.size, bM, bP, 2, n, s0, d0, nc, g⟩ : Fix) W0 (machC (.pointer (some ⟨bR, 0, none⟩)) (.pointer (some ⟨bP, 0, none⟩)) (.slice (some ⟨s0, 0, none⟩) n n) (.slice (some ⟨d0, 0, none⟩) 0 n) (.slice (some ⟨s1, 0, none⟩) n n) (.slice (some ⟨d1, 0, none⟩) 0 n) (.slice (some ⟨gm, 0, none⟩) 0 nc)) [] [] [] none wx cs1 pv1 l1 ths1 P1 none) ∧ Hid (reachF k L cond (pcs.drop i) l1 = some l0) ∧ Hid (Good L.length l1))
 case atStart => exact ⟨0, _, _, [], [], [], rfl, by omega, by omega, HA0, HK, Lib.hid ⟨List.nodup_nil, by simp⟩⟩
 case round =>
  obtain ⟨i, cs1, pv1, l1, ths1, P1, rfl, hi, hg, HA1, HR1, HG1⟩ := hrel
  obtain ⟨g', rfl⟩ : ∃ g', gk = g' + 1 := ⟨gk - 1, by omega⟩
  by_cases hlt : i < pcs.length
  ·have hb0 : decide ((i : Int) < (pcs.length : Int)) = true := decide_eq_true (by omega)
   obtain ⟨zb, zo, hAp, _, hcz⟩ := HA.out (by simp; omega)
   have x0 := hcz i (by simpa using hlt)
   have hbx : Below w.heap.size w wr := HA1.out.ms.bel
   replace x0 := low hbx x0
   have hx : (pcs.map fun (x : Nat) => (x : Int)).getD i 0 = ((pcs.getD i 0 : Nat) : Int) := by simp [List.getD_eq_getElem?_getD, hlt]
   rw [hx] at x0
   subst hAp
   have hxl : pcs.getD i 0 < L.length := HPC.out _ (getD_mem hlt)
   have hr := HR1.out
   rw [List.drop_eq_getElem_cons hlt, show pcs[i] = pcs.getD i 0 by simp [List.getD_eq_getElem?_getD, hlt]] at hr
   simp only [reachF] at hr
   obtain ⟨l2, e1, e2⟩ := Option.bind_eq_some_iff.1 hr
   have HR2 := Lib.hid e2
   have HC1 := Lib.hid (HA1.out.keepT HMS5.out (fun b hb => by simp at hb) HC5.out (by decide) (by decide) (by decide) (by decide) (by decide))
   have hbd : Below wr.heap.size wr wr.drew := (Below.refl _ _).drew
   have HA2 := Lib.hid (HA1.out.step hbd)
   have hle := HA1.out.le
   have CA := Lib.hid (CADD.out (some ⟨gm, 0, none⟩) nc l1 _ l2 e1 HG1.out hxl wr.drew cs1 pv1 ([] ++ ths1) P1 none HA2.out.ms (List.nodup_append.1 HA2.out.nd).1 (fun b hb => by simp at hb) (by simp at hle; simp [hle]) HC1.out)
   have HG2 := Lib.hid (addF_good HS.out.out k _ _ l2 e1 HG1.out hxl)
   have k8 := cell_at HA1.out.ms.blk ((HA1.out.csr 8 (by omega) (by show 8 ≠ 2 + 1; omega)).trans (show (machC _ _ _ _ _ _ _)[8]? = _ from rfl))
   generalize pcs.getD i 0 = x at *
   clear hr e1 e2 hx hxl hbx hcz hle hbd
   go_upto_region 7 with fail
   go_still_tail 9, (by kernel_rfl)
   change wpList _ _ _ _ _ wr.drew
   clear x0 k8
   generalize wr.drew = wd at *
   go_upto_region 8 with (go_at_call 60; refine (Calls.mono CA.out ?_); rintro e w6 ⟨cs5, pv5, ths5, P5, t5, rfl, hacc5⟩; have HA5 := Lib.hid ((HA2.out.trans hacc5).drop); clear hacc5)
   go_wp2_with fail
   go_roundg g'
   case rel => exact ⟨i + 1, _, _, l2, _, P5, by go_num, by omega, by omega, HA5, HR2, HG2⟩
   case measure => omega
  ·have hb0 : decide ((i : Int) < (pcs.length : Int)) = false := decide_eq_false (by omega)
   have hr := HR1.out
   rw [List.drop_eq_nil_of_le (by omega)] at hr
   simp only [reachF] at hr
   obtain rfl := Option.some.inj hr
   clear hr
   go_wp2_with fail
   go_ret
   have hP1 : P1 = [] := by have := HA1.out.le; simpa using this
   subst hP1
   have a := HA1.out
   have kT := fun {b : Nat} {cb : Array Value} {T : TypeId} => a.keepT (b := b) (cb := cb) (T := T) HMS5.out (fun b hb => by simp at hb)
   have hndt := (List.nodup_append.1 a.nd).2.1
   exact ⟨bM, bR, s0, d0, s1, d1, n, nc, cs1, pv1, ths1, cr, CS, CE, rfl, a.ms, fun j hj => a.ent j (Nat.zero_le _) hj, hndt, a.csr 0 (by omega) (by show 0 ≠ 2 + 1; omega), kT HR5.out (by decide) (by decide) (by decide) (by decide) (by decide), Q15.out,
    a.csr 4 (by omega) (by show 4 ≠ 2 + 1; omega), a.csr 5 (by omega) (by show 5 ≠ 2 + 1; omega), a.fr _ _ _ HS5.out (by decide) (fun e => hns e.symm) (ne_ty HS5.out HMS5.out.q.de.choose_spec.1 (by decide)) (by decide) (by simp [AV]), a.fr _ _ _ HD5.out (by decide) (ne_ty HD5.out HMS5.out.q.sp.choose_spec.1 (by decide)) (fun e => hnd e.symm) (by decide) (by simp [AV]), HCS.out, HZ.out, HCE.out, hns, hnd, hgs1', hgd1', hL2, hn48, hnc2, HG1.out⟩
end
end Go.Proofs.YtcncclglmgdinaaDoor.Ps
namespace Go.Proofs.YtcncclglmgdinaaDoor.Ps
open Go.RowKit Mem Go.Proofs.YtcncclglmgdinaaDoor.Fold Go.Proofs.YtcncclglmgdinaaDoor.PFnPgStep Go.Proofs.YtcncclglmgdinaaDoorW.PrintWords Go.Proofs.YtcncclglmgdinaaDoorW.PrintLast Go.Proofs.YtcncclglmgdinaaDoorW.PrintMore
set_option linter.unusedVariables false
/-- The other queue of the machine, an empty one. -/
theorem MS.other {w0 w : World} {B bM bP n s0 d0 s1 d1 cm : Nat} {cs : Array Value} {pv : Value} {l : List Nat} {ths : List Value} {P : List Nat} {CS CE : Array Value} (h : MS w0 w B bM bP 2 n s0 d0 cm cs pv l ths P)
  (h4 : cs[4]? = some (.slice (some ⟨s1, 0, none⟩) n n)) (h5 : cs[5]? = some (.slice (some ⟨d1, 0, none⟩) 0 n)) (hs : w.heap[s1]? = some (.cells CS 75 (0, 0))) (hd : w.heap[d1]? = some (.cells CE 135 (0, 0))) (h1 : CS.size = n) (h2 : ∀ i, i < n → CS[i]? = some (.int .u32 0)) (h3 : CE.size = n * 2) (gs : B ≤ s1) (gd : B ≤ d1) :
  MS w0 w B bM bP 4 n s1 d1 cm cs pv [] [] P :=
 ⟨h.blk, h.sz, h.f1, h4, h5, h.fp, h.fc, q_new hs hd h1 h2 h3, h.pool, h.th, h.bel, h.gM, gs, gd, h.gp, Or.inr rfl⟩
section
variable (L : List In) (bP start : Nat) (ncap : Int) (g cI : Nat) (R : List Value) (wb : World)
set_option maxRecDepth 100000 in
set_option maxHeartbeats 16000000 in
theorem zzs_c (w : World) (S : SQ L ncap start) (hPF : PF wb w bP start ncap (.slice (some ⟨g, 0, none⟩) (L.map cvt).length cI) R (L.map cvt)) (hm : MSz w) (hG : 0 < w.heap.size) (BF : Nat) (hFo : FoldV BF w) (hBF : BF ≤ w.heap.size) (r1 c r2 cond cond2 : Int) (h1 : -1 ≤ r1 ∧ r1 ≤ 1114111) (h : -1 ≤ c ∧ c ≤ 1114111) (h2 : -1 ≤ r2 ∧ r2 ≤ 1114111)
  (hc1 : spec_CondBetween.f 10 r1 c = some cond) (hc2 : spec_CondBetween.f 10 c r2 = some cond2) (lg : Bool) (Ap : Option Addr) (cp : Nat) (pcs : List Nat) (hA : IntsAt w w.heap.size .u32 Ap (pcs.map fun (x : Nat) => (x : Int))) (hpl : pcs.length ≤ 1000000) (hp : ∀ x ∈ pcs, x < L.length) (k : Nat) (l0 lf : List Nat) (hk : reachF k L cond pcs [] = some l0) (hk2 : reachF k L cond2 (nxF L c lg l0) [] = some lf) :
  Calls Tryd.prog 19 #[.pointer (some ⟨bP, 0, none⟩), .slice Ap pcs.length cp, .int .i32 r1, .int .i32 c, .int .i32 r2, .bool lg] w fun e w' => ∃ v1 v2, e = .returned (.tuple #[v1, v2, .bool (mdF L l0)]) ∧ w'.ownsRow w.heap.size 75 1 v1 lf.length (u32C lf) ∧ w'.ownsRow w.heap.size 4 1 v2 lf.length (waitC L lf) ∧ Below w.heap.size w w' := by
 have CM := Lib.hid (zzm_c L bP start ncap g cI R wb w S hPF hm hG r1 c cond h1 h hc1 lg Ap cp pcs hA hpl hp k l0 hk)
 have HS := Lib.hid S; have HP := Lib.hid hPF; have HFO := Lib.hid hFo; have HC2 := Lib.hid hc2; have HK2 := Lib.hid hk2
 clear S hPF hm hFo hA hp hk hk2 hc1 hc2
 go_enter Tryd.func19, Tryd.ntmps19
 go_upto_region 2 with (go_at_call 39; refine (Calls.mono CM.out ?_); rintro e w2 ⟨bM, bR, s0, d0, s1, d1, n, nc, cs, pv, ths, cr, CS, CE, rfl, hms, hen, hnd, hc0, hR, h15, hc4, hc5, hS1, hD1, hCS, hCS2, hCE, hns, hnd0, hgs1, hgd1, hLn, hn48, hnc, hg0⟩)
 have hgB := hms.gM
 obtain ⟨E, hE0, hE1, hE2⟩ := hms.q.de
 have hlen := hms.q.lt
 have hle := hms.q.le
 have c3 : cs[3]? = some (.slice (some ⟨d0, 0, none⟩) l0.length n) := hms.fd
 have ms4 := hms.other hc4 hc5 hS1 hD1 hCS hCS2 hCE hgs1 hgd1
 obtain ⟨v7, hv7⟩ : ∃ v, cs[7]? = some v := ⟨_, Array.getElem?_eq_getElem (show 7 < cs.size by rw [ms4.sz]; omega)⟩
 have k7 := cell_at ms4.blk hv7
 have z7 := fz_at ms4.blk 7
 obtain ⟨ms5, kp, hsz5⟩ := ms4.cset rfl (Or.inr rfl) (.bool false)
 have hl2 := hg0.len
 have hL2 := HS.out.len
 have HSI := Lib.hid (show SI (⟨L, w, w.heap.size, bM, bP, 4, n, s1, d1, nc, g⟩ : Fix) d0 E l0 ths (w2.setCell ⟨bM, 7, none⟩ (.bool false)) (cs.setIfInBounds 7 (.bool false)) pv [] [] [] none 0 l0.length false from
  ⟨ms5, rfl, fun k hk => by simp at hk, kp _ _ _ hE0 (by decide) (by decide), hnd0, hE2, fun k _ hk => (hen k hk).same (fun b cs hc => kp b cs _ hc (by decide) (by decide)), by
   rw [List.take_of_length_le (by omega), List.drop_zero]; simpa [AV, thb] using hnd, fun b hb => by simp at hb, by simp [AV]; omega, by rw [Array.getElem?_setIfInBounds, if_neg (by omega)]; exact c3, by rw [Array.getElem?_setIfInBounds, if_pos rfl, if_pos (by rw [ms4.sz]; omega)], hlen, Nat.le_refl _⟩)
 have HR := Lib.hid (kp _ _ _ hR (by decide) (by decide))
 have H15 := Lib.hid h15
 have HC0 : Hid ((cs.setIfInBounds 7 (.bool false))[0]? = some (.pointer (some ⟨bR, 0, none⟩))) := Lib.hid (by rw [Array.getElem?_setIfInBounds, if_neg (by omega)]; exact hc0)
 have HG0 := Lib.hid hg0
 clear hv7 hms hen hnd hc0 hR h15 hc4 hc5 hS1 hD1 hCS hCS2 hCE hE0 hE1 hE2 c3 ms4 ms5 kp hg0 CM
 go_upto_region 3 with fail
 clear k7 z7
 generalize w2.setCell ⟨bM, 7, none⟩ (.bool false) = w3 at *
 have CF := Lib.hid (regexp_newLazyFlag.calls c r2 (flagF c r2) w3 (flag_f c r2))
 go_upto_region 4 with (go_at_call 40; refine (Calls.mono CF.out ?_); rintro e w5 ⟨rfl, hq⟩; have HBQ := Lib.hid (show Below w3.heap.size w3 w5 by obtain ⟨q, rfl⟩ := hq.out; exact Mem.below_drewN (Below.refl _ _) q); clear hq)
 have hbq := HBQ.out
 have hbW : Below w3.heap.size w3 (w5.alloc (.cells #[.int .u64 (flagF c r2)] 96)).drew := (hbq.alloc hbq.size _).drew
 have HC5 : Hid ((w5.alloc (.cells #[.int .u64 (flagF c r2)] 96)).drew.heap[w5.heap.size]? = some (.cells #[.int .u64 (flagF c r2)] 96 (0, 0))) := Lib.hid (Mem.blk_new w5 (.cells #[.int .u64 (flagF c r2)] 96))
 have HSI5 := Lib.hid (HSI.out.below hbW)
 have HR5 := Lib.hid ((hbW.block _ (lt_of_block HR.out)).trans HR.out)
 have CST := Lib.hid (step_c (⟨L, w, w.heap.size, bM, bP, 4, n, s1, d1, nc, g⟩ : Fix) start ncap cI R wb cond2 (flagF c r2) w5.heap.size c lg d0 E BF HS.out rfl HP.out hLn (by show n ≤ 1000000; omega) (by show nc ≤ 1000000; omega) (fun op a b => flag_match c r2 op h h2 ⟨a, b⟩ cond2 HC2.out) HFO.out hBF k l0 ths lf HK2.out HG0.out.2 hle _ _ pv [] HSI5.out HC5.out bR cr HC0.out HR5.out H15.out)
 clear hbq hbW HBQ HSI HR CF HC5 HSI5 HR5
 go_still_tail 8, (by kernel_rfl)
 change wpList _ _ _ _ _ (w5.alloc (.cells #[.int .u64 (flagF c r2)] 96)).drew
 generalize (w5.alloc (.cells #[.int .u64 (flagF c r2)] 96)).drew = w6 at *
 generalize w5.heap.size = bC at *
 go_upto_region 5 with (go_at_call 41; refine (Calls.mono CST.out ?_); rintro e w7 ⟨rfl, cs7, pv7, ths7, P7, j7, hsi7⟩; have HS7 := Lib.hid hsi7; clear hsi7)
 have hgl0 : lf.length ≤ n := HS7.out.ms.q.le
 have hgl : lf.length ≤ 1000000 := by omega
 have CQ := Lib.hid (zzq_c (⟨L, w, w.heap.size, bM, bP, 4, n, s1, d1, nc, g⟩ : Fix) w7 cs7 pv7 lf ths7 P7 HS7.out.ms HS7.out.ent hgl)
 go_upto_region 6 with (go_at_call 42; refine (Calls.mono CQ.out ?_); rintro e w8 ⟨v1, v2, rfl, ho1, ho2, hb8⟩; have HO1 := Lib.hid ho1; have HO2 := Lib.hid ho2; have HB8 := Lib.hid hb8; clear ho1 ho2 hb8)
 have k7 : w8.cell? ⟨bM, 7, none⟩ = some (.bool (mdF L l0)) := low HB8.out (cell_at HS7.out.ms.blk HS7.out.c7)
 have hB7 : Below w.heap.size w w7 := HS7.out.ms.bel
 have HB7 := Lib.hid hB7
 clear hB7
 go_quiet (fail)
 go_wp2_with fail
 refine bodyPost_ret (v := .tuple #[v1, v2, .bool (mdF L l0)]) (by simp [results, Tryd.results19, go_sem]; try rfl) rfl ?_
 exact ⟨v1, v2, rfl, World.ownsRow.mono HO1.out HB7.out.size, World.ownsRow.mono HO2.out HB7.out.size, Mem.below_drewN (HB7.out.trans (HB8.out.mono HB7.out.size)) nq⟩
end
end Go.Proofs.YtcncclglmgdinaaDoor.Ps
