/- The thin package's PgStep: the walks of 'queued' and of itself. The reference's step: the walk of 'ProgStep'. The law FnPgStep: the package's step and the reference's are one. Where the variables of folding read as Go's text lays them, the walk's facts on them hold. Where the sizes of the package's queues read as Go's text lays them, the walk's facts on them hold. A program handed in, as the printed texts read it. -/
import Derived.Test.YtcncclglmgdinaaDoorPuA2FnPgStep
import Derived.Test.YtcncclglmgdinaaDoorPuA1FnPgStep
import Derived.Deep.Onto
import Derived.Test.YtcncclglmgdinaaDoorSFold
import Derived.Lib.LaidU8
import Derived.Lib.LaidCase
import Derived.PinnedBridge
import Derived.Test.YtcncclglmgdinaaDoorPsA1FnPgStep
import Derived.ChangeSlices
import Derived.DataReads
import Derived.OpenShut
import Derived.Deep.Slices
namespace Go.Proofs.YtcncclglmgdinaaDoor.Ps
open Go.RowKit Mem Go.Proofs.YtcncclglmgdinaaDoor.Fold Go.Proofs.YtcncclglmgdinaaDoor.PFnPgStep Go.Proofs.YtcncclglmgdinaaDoorW.PrintWords Go.Proofs.YtcncclglmgdinaaDoorW.PrintLast Go.Proofs.YtcncclglmgdinaaDoorW.PrintMore
set_option linter.unusedVariables false
theorem PF.form {w0 w : World} {bP : Nat} {start ncap : Int} {vI : Value} {R : List Value} {K : List In} (h : PF w0 w bP start ncap vI R K) (hK : 0 < K.length) : ∃ g c, vI = .slice (some ⟨g, 0, none⟩) K.length c := by
 rcases h.own.2 with ⟨_, h0⟩ | ⟨g, c, cur, hv, _⟩
 ·omega
 ·exact ⟨g, c, hv⟩
/-- A row of one's own of whole numbers reads as a list, in the printed texts' way. -/
theorem own_kd {w : World} {base : Nat} {e : TypeId} {k : IntKind} {A : Option Addr} {c n : Nat} {zs : List Int} (h : w.ownsRow base e 1 (.slice A n c) n (zs.map (Value.int k))) (hm : zs.length ≤ maxLen) : n = zs.length ∧ zs.length ≤ c ∧ Kd.C (Kd.int k) w A zs.length zs := by
 have hl : n = zs.length := by have := h.1; simp at this; omega
 subst hl
 refine ⟨rfl, ?_, ⟨rfl, hm, fun hn => ?_⟩⟩
 ·rcases h.2 with ⟨hv, h0⟩ | ⟨g, cap, cur, hv, _, _, hc, _⟩
  ·omega
  ·simp only [Value.slice.injEq] at hv
   omega
 ·obtain ⟨g, cap, hv, _, hlt⟩ := h.form hn
  have hA : A = some ⟨g, 0, none⟩ := by injection hv
  subst hA
  refine ⟨_, rfl, fun j p hj => ⟨[.int k p], rfl, rfl, fun i u hu => ?_⟩⟩
  have hi : i = 0 := by
   cases i with
   | zero => rfl
   | succ i => simp at hu
  subst hi
  simp at hu
  subst hu
  have hc := h.cells (g := g) rfl j (.int k p) (by simp [hj])
  have hsz : (Kd.int k).sz = 1 := rfl
  rw [hsz, Nat.mul_one, Nat.add_zero]
  exact hc
theorem own_kb {w : World} {base : Nat} {e : TypeId} {A : Option Addr} {c n : Nat} {zs : List Bool} (h : w.ownsRow base e 1 (.slice A n c) n (zs.map Value.bool)) (hm : zs.length ≤ maxLen) : n = zs.length ∧ zs.length ≤ c ∧ Kd.C Kd.bool w A zs.length zs := by
 have hl : n = zs.length := by have := h.1; simp at this; omega
 subst hl
 refine ⟨rfl, ?_, ⟨rfl, hm, fun hn => ?_⟩⟩
 ·rcases h.2 with ⟨hv, h0⟩ | ⟨g, cap, cur, hv, _, _, hc, _⟩
  ·omega
  ·simp only [Value.slice.injEq] at hv
   omega
 ·obtain ⟨g, cap, hv, _, hlt⟩ := h.form hn
  have hA : A = some ⟨g, 0, none⟩ := by injection hv
  subst hA
  refine ⟨_, rfl, fun j p hj => ⟨[.bool p], rfl, rfl, fun i u hu => ?_⟩⟩
  have hi : i = 0 := by
   cases i with
   | zero => rfl
   | succ i => simp at hu
  subst hi
  simp at hu
  subst hu
  have hc := h.cells (g := g) rfl j (.bool p) (by simp [hj])
  have hsz : Kd.bool.sz = 1 := rfl
  rw [hsz, Nat.mul_one, Nat.add_zero]
  exact hc
theorem reach_good {L : List In} {c : Int} (hO : OutOk L) (k : Nat) : ∀ (ps l l' : List Nat), reachF k L c ps l = some l' → Good L.length l → (∀ x ∈ ps, x < L.length) → Good L.length l'
 | [], l, l', h, hg, _ => by
  obtain rfl := Option.some.inj h
  exact hg
 | pc :: ps, l, l', h, hg, hp => by
  obtain ⟨l1, e1, e2⟩ := Option.bind_eq_some_iff.1 h
  exact reach_good hO k ps l1 l' e2 (addF_good hO k l pc l1 e1 hg (hp pc (by simp))) (fun x hx => hp x (by simp [hx]))
theorem ints_l (l : List Nat) (hl : l.length ≤ 1000000) (hx : ∀ x ∈ l, x ≤ 1000000) : ∀ (k i : Nat), l.length < i + k → i ≤ l.length → impl_ints.l0 k ((l.take i).map fun (x : Nat) => (x : Int)) (l.map fun (x : Nat) => (x : Int)) (l.length : Int) (i : Int) = some (l.map fun (x : Nat) => (x : Int))
 | 0, i, h, hi => by omega
 | k + 1, i, h, hi => by
  have hw1 : wrap64 ((i : Int) + 1) = ((i + 1 : Nat) : Int) := by unfold wrap64; omega
  simp only [impl_ints.l0, hw1, rdN, List.length_map]
  by_cases h1 : i < l.length
  ·rw [if_pos (by omega), if_pos (by omega), if_pos (by omega), if_pos (by rw [List.length_take]; omega)]
   have hg : (l.map fun (x : Nat) => (x : Int)).getD i 0 = ((l.getD i 0 : Nat) : Int) := by simp [List.getD_eq_getElem?_getD, h1]
   have hle := hx (l.getD i 0) (getD_mem h1)
   have hw2 : wrap64 ((l.getD i 0 : Nat) : Int) = ((l.getD i 0 : Nat) : Int) := by unfold wrap64; omega
   rw [hg, hw2]
   have hs : (l.take (i + 1)).map (fun (x : Nat) => (x : Int)) = (l.take i).map (fun (x : Nat) => (x : Int)) ++ [((l.getD i 0 : Nat) : Int)] := by
    rw [List.take_add_one, List.map_append]
    simp [List.getD_eq_getElem?_getD, h1]
   rw [← hs]
   exact ints_l l hl hx k (i + 1) (by omega) (by omega)
  ·rw [if_neg (by omega)]
   have : i = l.length := by omega
   subst this
   rw [List.take_length]
theorem ints_f (l : List Nat) (hl : l.length ≤ 1000000) (hx : ∀ x ∈ l, x ≤ 1000000) : impl_ints.f (l.length + 1) (l.map fun (x : Nat) => (x : Int)) = some (l.map fun (x : Nat) => (x : Int)) := by
 have := ints_l l hl hx (l.length + 1) 0 (by omega) (by omega)
 unfold impl_ints.f
 rw [List.length_map]
 simpa using this
theorem u32_map (l : List Nat) : u32C l = (l.map fun (x : Nat) => (x : Int)).map (Value.int .u32) := by simp [u32C]
theorem wait_map (L : List In) (l : List Nat) : waitC L l = (l.map fun x => waitB (inAt L x)).map Value.bool := by simp [waitC]
section
variable (L : List In) (A : Option Addr) (cap : Nat) (start : Nat) (ncap : Int)
set_option maxRecDepth 100000 in
set_option maxHeartbeats 8000000 in
theorem queued_c (w : World) (hK : k55.C w A L.length L) (hcap : L.length ≤ cap) (S : SQ L ncap start) (Ap : Option Addr) (cp : Nat) (pcs : List Nat) (hA : IntsAt w w.heap.size .i64 Ap (pcs.map fun (x : Nat) => (x : Int))) (hpl : pcs.length ≤ 1000000) (hp : ∀ x ∈ pcs, x < L.length) :
  Calls Tryd.prog 18 #[.agg #[.slice A L.length cap, .int .i64 start, .int .i64 ncap], .slice Ap pcs.length cp] w fun e w' => ∃ (wb : World) (bP g cI : Nat) (R : List Value) (Au : Option Addr) (cu : Nat), e = .returned (.tuple #[.pointer (some ⟨bP, 0, none⟩), .slice Au pcs.length cu, .bool true]) ∧ PF wb w' bP start ncap (.slice (some ⟨g, 0, none⟩) (L.map cvt).length cI) R (L.map cvt) ∧
   IntsAt w' w'.heap.size .u32 Au (pcs.map fun (x : Nat) => (x : Int)) ∧ Below w.heap.size w w' := by
 obtain ⟨kl, hl⟩ := S.loops
 have CP : Hid (∀ W, Below w.heap.size w W → Calls Tryd.prog 38 #[.agg #[.slice A L.length cap, .int .i64 start, .int .i64 ncap]] W fun e w' => ∃ bP g cI R, e = .returned (.tuple #[.pointer (some ⟨bP, 0, none⟩), .bool true]) ∧ PF W w' bP start ncap (.slice (some ⟨g, 0, none⟩) (L.map cvt).length cI) R (L.map cvt)) :=
  Lib.hid fun W hb => (progFor_c L A cap start ncap W (Kd.C_below hK hb) hcap S.len S.pos S.lt S.n0 S.n1 S.fail S.rg S.fit kl hl).mono fun e w' h => by
   obtain ⟨bP, vI, R, rfl, hp⟩ := h
   obtain ⟨g, c, rfl⟩ := hp.form (by rw [List.length_map]; exact S.pos)
   exact ⟨bP, g, c, R, rfl, hp⟩
 have HA := Lib.hid hA; have HPC := Lib.hid hp
 have hL2 := S.len
 clear hK hcap S hl hA hp
 go_enter Tryd.func18, Tryd.ntmps18
 have HB1 := Lib.hid ((Below.refl w.heap.size w).alloc (Nat.le_refl _) (.cells #[.slice A L.length cap, .int .i64 start, .int .i64 ncap] 24))
 have HX1 := Lib.hid (Mem.blk_new w (.cells #[.slice A L.length cap, .int .i64 start, .int .i64 ncap] 24))
 go_upto_region 4 with (go_at_call 38; refine (Calls.mono (CP.out _ HB1.out) ?_); rintro e w1 ⟨bP, g, cI, R, rfl, hp⟩; have HP := Lib.hid hp; have HB2 := Lib.hid (HB1.out.trans (hp.bel.mono HB1.out.size)); have HX2 := Lib.hid ((hp.bel.block _ (lt_of_block HX1.out)).trans HX1.out); clear hp)
 clear CP HB1 HX1
 have k0 : w1.cell? ⟨w.heap.size, 0, none⟩ = some (.slice A L.length cap) := cell_at HX2.out rfl
 have K0 := Lib.hid k0
 clear k0
 go_wp2_with fail
 go_loopg [21, 9] (pcs.length + 1) (fun gg s21 s9 wx => ∃ j : Nat, s21 = .int .i64 j ∧ j ≤ pcs.length ∧ pcs.length - j < gg ∧ Hid (wx.ownsRow w1.heap.size 75 1 s9 j (u32C (pcs.take j))) ∧ Hid (Below w1.heap.size w1 wx))
 case atStart => exact ⟨0, rfl, by omega, by omega, Lib.hid (World.ownsRow_nil _ _ _ _), Lib.hid (Below.refl _ _)⟩
 case round =>
  obtain ⟨j, rfl, hj, hg, HU, HBx⟩ := hrel
  obtain ⟨g', rfl⟩ : ∃ g', gk = g' + 1 := ⟨gk - 1, by omega⟩
  by_cases hlt : j < pcs.length
  ·have hb0 : decide ((j : Int) < (pcs.length : Int)) = true := decide_eq_true (by omega)
   obtain ⟨zb, zo, hAp, _, hcz⟩ := HA.out (by simp; omega)
   have x0 := hcz j (by simpa using hlt)
   have hbx : Below w.heap.size w wr := HB2.out.trans (HBx.out.mono HB2.out.size)
   replace x0 := low hbx x0
   have hx : (pcs.map fun (x : Nat) => (x : Int)).getD j 0 = ((pcs.getD j 0 : Nat) : Int) := by simp [List.getD_eq_getElem?_getD, hlt]
   rw [hx] at x0
   subst hAp
   have hxl : pcs.getD j 0 < L.length := HPC.out _ (getD_mem hlt)
   have k0 := low HBx.out K0.out
   have HSU := Lib.hid (u32C_snoc hlt)
   have hws := HBx.out.size
   generalize pcs.getD j 0 = x at *
   have hb1 : decide ((x : Int) < 0) = false := decide_eq_false (by omega)
   have hb2 : decide ((L.length : Int) ≤ (x : Int)) = false := decide_eq_false (by omega)
   have hwu : IntKind.u32.wrap (x : Int) = (x : Int) := by rw [IntKind.wrap_u32]; omega
   obtain ⟨Au, cu, hu⟩ := own_slice HU.out
   subst hu
   clear hcz hbx hx
   go_wp2_with (at_builtin; refine Mem.wp_app1 rfl _ _ _ rfl w1.heap.size 75 (.int .u32 0) 4 Tryd.underlying45 info_u32 rfl _ j (u32C (pcs.take j)) rfl HU.out (.int .u32 (x : Nat)) rfl rfl (by unfold maxLen; omega) (by omega) hws ?_; intro v6 w6 ho6 hg6 hb6; have HO6 := Lib.hid ho6; have HB6 := Lib.hid (HBx.out.trans hb6); clear ho6 hg6 hb6)
   go_roundg g'
   case rel => exact ⟨j + 1, by go_num, by omega, by omega, Lib.hid (by rw [HSU.out]; exact HO6.out), HB6⟩
   case measure => omega
  ·have hb0 : decide ((j : Int) < (pcs.length : Int)) = false := decide_eq_false (by omega)
   obtain rfl : j = pcs.length := by omega
   rw [List.take_length] at HU
   obtain ⟨Au, cu, hu⟩ := own_slice HU.out
   subst hu
   go_wp2_with fail
   refine bodyPost_ret (v := .tuple #[.pointer (some ⟨bP, 0, none⟩), .slice Au pcs.length cu, .bool true]) (by simp [results, Tryd.results18, go_sem]; try rfl) rfl ?_
   refine ⟨_, bP, g, cI, R, Au, cu, rfl, HP.out.below HBx.out, ?_, HB2.out.trans (HBx.out.mono HB2.out.size)⟩
   have := HU.out
   rw [u32_map] at this
   exact IntsAt.own this
set_option maxRecDepth 100000 in
set_option maxHeartbeats 8000000 in
theorem pgStep_c (w : World) (hK : k55.C w A L.length L) (hcap : L.length ≤ cap) (S : SQ L ncap start) (hm : MSz w) (hG : 0 < w.heap.size) (BF : Nat) (hFo : FoldV BF w) (hBF : BF ≤ w.heap.size) (r1 c r2 cond cond2 : Int) (h1 : -1 ≤ r1 ∧ r1 ≤ 1114111) (h : -1 ≤ c ∧ c ≤ 1114111) (h2 : -1 ≤ r2 ∧ r2 ≤ 1114111)
  (hc1 : spec_CondBetween.f 10 r1 c = some cond) (hc2 : spec_CondBetween.f 10 c r2 = some cond2) (lg : Bool) (Ap : Option Addr) (cp : Nat) (pcs : List Nat) (hA : IntsAt w w.heap.size .i64 Ap (pcs.map fun (x : Nat) => (x : Int))) (hpl : pcs.length ≤ 1000000) (hp : ∀ x ∈ pcs, x < L.length) (k : Nat) (l0 lf : List Nat) (hk : reachF k L cond pcs [] = some l0) (hk2 : reachF k L cond2 (nxF L c lg l0) [] = some lf) :
  Calls Tryd.prog 7 #[.agg #[.slice A L.length cap, .int .i64 start, .int .i64 ncap], .slice Ap pcs.length cp, .int .i32 r1, .int .i32 c, .int .i32 r2, .bool lg] w fun e w' => ∃ (Aq : Option Addr) (cq : Nat) (Ab : Option Addr) (cb : Nat) (QI : List Int) (QB : List Bool), QI = (lf.map fun (x : Nat) => (x : Int)) ∧ QB = (lf.map fun x => waitB (inAt L x)) ∧ e = .returned (.tuple #[.slice Aq QI.length cq, .slice Ab QB.length cb, .bool (mdF L l0), .bool true]) ∧
   QI.length ≤ cq ∧ QB.length ≤ cb ∧ Kd.C (Kd.int .i64) w' Aq QI.length QI ∧ Kd.C Kd.bool w' Ab QB.length QB ∧ Below w.heap.size w w' := by
 have hg0 := reach_good S.out k pcs [] l0 hk ⟨List.nodup_nil, by simp⟩ hp
 have hgf := reach_good S.out k _ [] lf hk2 ⟨List.nodup_nil, by simp⟩ (nx_lt S.out l0 hg0.2)
 have hL2 := S.len
 have hll := hgf.len
 have hif := ints_f lf (by omega) (fun x hx => by have := hgf.2 x hx; omega)
 have CQ : Hid (∀ W, Below w.heap.size w W → Calls Tryd.prog 18 #[.agg #[.slice A L.length cap, .int .i64 start, .int .i64 ncap], .slice Ap pcs.length cp] W fun e w' => ∃ (wb : World) (bP g cI : Nat) (R : List Value) (Au : Option Addr) (cu : Nat), e = .returned (.tuple #[.pointer (some ⟨bP, 0, none⟩), .slice Au pcs.length cu, .bool true]) ∧ PF wb w' bP start ncap (.slice (some ⟨g, 0, none⟩) (L.map cvt).length cI) R (L.map cvt) ∧
   IntsAt w' w'.heap.size .u32 Au (pcs.map fun (x : Nat) => (x : Int)) ∧ Below W.heap.size W w') :=
  Lib.hid fun W hb => queued_c L A cap start ncap W (Kd.C_below hK hb) hcap S Ap cp pcs ((hA.below hb (Nat.le_refl _)).more hb.size) hpl hp
 obtain ⟨QI, hQI⟩ : ∃ QI, (lf.map fun (x : Nat) => (x : Int)) = QI := ⟨_, rfl⟩
 obtain ⟨QB, hQB⟩ : ∃ QB, (lf.map fun x => waitB (inAt L x)) = QB := ⟨_, rfl⟩
 have hql : QI.length ≤ maxLen := by rw [← hQI, List.length_map]; unfold maxLen; omega
 have hqb : QB.length ≤ maxLen := by rw [← hQB, List.length_map]; unfold maxLen; omega
 rw [hQI] at hif
 have CI : Hid (∀ (W : World) (A : Option Addr) (c : Nat), Kd.C (Kd.int .u32) W A QI.length QI → QI.length ≤ c → Calls Tryd.prog 20 #[.slice A QI.length c] W fun e w' => ∃ v0_ : Value, e = .returned (v0_) ∧ Kd.R (Kd.int .i64) 3 w' W.heap.size (fun _ => True) v0_ QI ∧ Below W.heap.size W w') :=
  Lib.hid fun W A c h hc => impl_ints.calls (lf.length + 1) A c QI QI W h hc hif
 have hum := u32_map lf
 have hwm := wait_map L lf
 rw [hQI] at hum
 rw [hQB] at hwm
 have CZ : Hid (∀ (W wb : World) (bP g cI : Nat) (R : List Value) (Au : Option Addr) (cu : Nat), Below w.heap.size w W → PF wb W bP start ncap (.slice (some ⟨g, 0, none⟩) (L.map cvt).length cI) R (L.map cvt) → IntsAt W W.heap.size .u32 Au (pcs.map fun (x : Nat) => (x : Int)) → Calls Tryd.prog 19 #[.pointer (some ⟨bP, 0, none⟩), .slice Au pcs.length cu, .int .i32 r1, .int .i32 c, .int .i32 r2, .bool lg] W fun e w' => ∃ A1 c1 A2 c2, e = .returned (.tuple #[.slice A1 QI.length c1, .slice A2 QB.length c2, .bool (mdF L l0)]) ∧ QI.length ≤ c1 ∧ QB.length ≤ c2 ∧ Kd.C (Kd.int .u32) w' A1 QI.length QI ∧ Kd.C Kd.bool w' A2 QB.length QB ∧ Below W.heap.size W w') :=
  Lib.hid fun W wb bP g cI R Au cu hb hP hAu => (zzs_c L bP start ncap g cI R wb W S hP (fun i hi => low hb (hm i hi)) (Nat.lt_of_lt_of_le hG hb.size) BF (hFo.below hb hBF) (Nat.le_trans hBF hb.size) r1 c r2 cond cond2 h1 h h2 hc1 hc2 lg Au cu pcs hAu hpl hp k l0 lf hk hk2).mono fun e w' hh => by
   obtain ⟨v1, v2, rfl, ho1, ho2, hb2⟩ := hh
   obtain ⟨A1, c1, rfl⟩ := own_slice ho1
   obtain ⟨A2, c2, rfl⟩ := own_slice ho2
   rw [hum] at ho1
   rw [hwm] at ho2
   obtain ⟨e1, q1, k1⟩ := own_kd ho1 hql
   obtain ⟨e2, q2, k2⟩ := own_kb ho2 hqb
   exact ⟨A1, c1, A2, c2, by rw [← e1, ← e2], q1, q2, k1, k2, hb2⟩
 have HQIe := Lib.hid hQI; have HQBe := Lib.hid hQB
 generalize mdF L l0 = mD at *
 clear hK hcap S hm hFo hA hp hk hk2 hg0 hgf hif hll hql hqb hQI hQB hc1 hc2 hum hwm
 go_enter Tryd.func7, Tryd.ntmps7
 have HB1 := Lib.hid ((Below.refl w.heap.size w).alloc (Nat.le_refl _) (.cells #[.slice A L.length cap, .int .i64 start, .int .i64 ncap] 24))
 go_wp2_with (first
  | (go_at_call 18; refine (Calls.mono (CQ.out _ HB1.out) ?_); rintro e w1 ⟨wb, bP, g, cI, R, Au, cu, rfl, hP, hAu, hb1⟩; have HP := Lib.hid hP; have HAU := Lib.hid hAu; have HB2 := Lib.hid (HB1.out.trans (hb1.mono HB1.out.size)); clear hP hAu hb1)
  | (go_at_call 19; refine (Calls.mono (CZ.out _ _ _ _ _ _ _ _ HB2.out HP.out HAU.out) ?_); rintro e w2 ⟨A1, c1, A2, c2, rfl, q1, q2, k1, k2, hb2⟩; have HB3 := Lib.hid (HB2.out.trans (hb2.mono HB2.out.size)); have K1 := Lib.hid k1; have K2 := Lib.hid k2; have Q1 := Lib.hid q1; have Q2 := Lib.hid q2; clear hb2 k1 k2 q1 q2)
  | (go_at_call 20; refine (Calls.mono (CI.out _ _ _ K1.out Q1.out) ?_); rintro e w3 ⟨v3, rfl, hr3, hb3⟩; have HB4 := Lib.hid (HB3.out.trans (hb3.mono HB3.out.size)); have K3 := Lib.hid (Kd.C_below K2.out hb3); obtain ⟨A3, c3, hv3, q3, k3⟩ := Kd.R_reads hr3; subst hv3; have K4 := Lib.hid k3; have Q3 := Lib.hid q3; clear hr3 hb3 k3 q3))
 refine bodyPost_ret (v := .tuple #[.slice A3 QI.length c3, .slice A2 QB.length c2, .bool mD, .bool true]) (by simp [results, Tryd.results7, go_sem]; try rfl) rfl ?_
 exact ⟨A3, c3, A2, c2, QI, QB, HQIe.out.symm, HQBe.out.symm, rfl, Q3.out, Q2.out, K4.out, K3.out, HB4.out⟩
end
end Go.Proofs.YtcncclglmgdinaaDoor.Ps
namespace Go.Proofs.YtcncclglmgdinaaDoor.Ps
open Go.RowKit Mem Go.Proofs.YtcncclglmgdinaaDoor.Fold Go.Proofs.YtcncclglmgdinaaDoor.PFnPgStep Go.Proofs.YtcncclglmgdinaaDoorW.PrintWords Go.Proofs.YtcncclglmgdinaaDoorW.PrintLast Go.Proofs.YtcncclglmgdinaaDoorW.PrintMore
set_option linter.unusedVariables false
theorem nat_ints {w : World} {B n : Nat} {A : Option Addr} {l : List Nat} {c : Nat} (h : w.ownsRow B 3 1 (.slice A n c) n (natC l)) : IntsAt w w.heap.size .i64 A (l.map fun (x : Nat) => (x : Int)) := by
 have e : natC l = (l.map fun (x : Nat) => (x : Int)).map (Value.int .i64) := by simp [natC]
 rw [e] at h
 exact IntsAt.own h
theorem natC_snoc (l : List Nat) (x : Nat) : natC (l ++ [x]) = natC l ++ [Value.int .i64 (x : Nat)] := by simp [natC]
theorem nx_four {L : List In} {c : Int} {lg : Bool} {pc : Nat} {r : List Nat} (h4 : (inAt L pc).f0 = 4) : nxF L c lg (pc :: r) = if lg = true then nxF L c lg r else [] := by
 simp only [nxF]
 rw [if_pos h4]
theorem nx_other {L : List In} {c : Int} {lg : Bool} {pc : Nat} {r : List Nat} (h4 : (inAt L pc).f0 ≠ 4) : nxF L c lg (pc :: r) = if (waitB (inAt L pc) && takesF (inAt L pc) c) = true then (inAt L pc).f1.toNat :: nxF L c lg r else nxF L c lg r := by
 simp only [nxF]
 rw [if_neg h4]
section
variable (L : List In) (A : Option Addr) (cap : Nat) (start : Nat) (ncap : Int)
set_option maxRecDepth 100000 in
set_option maxHeartbeats 16000000 in
theorem progStep_c (w0 : World) {B0 : Nat} (hK : k55.C w0 A L.length L) (hcap : L.length ≤ cap) (S : SQ L ncap start) (hF : FoldV B0 w0) (hB0 : B0 ≤ w0.heap.size) (Ap : Option Addr) (cp : Nat) (pcs : List Nat) (hA : IntsAt w0 w0.heap.size .i64 Ap (pcs.map fun (x : Nat) => (x : Int))) (hp : ∀ x ∈ pcs, x < L.length) (hpl : pcs.length ≤ 1000000)
  (r1 c r2 cond cond2 : Int) (hc1 : spec_CondBetween.f 10 r1 c = some cond) (hc2 : spec_CondBetween.f 10 c r2 = some cond2) (h0 : 0 ≤ c) (lg : Bool) (k : Nat) (l lf : List Nat) (hk : reachF k L cond pcs [] = some l) (hk2 : reachF k L cond2 (nxF L c lg l) [] = some lf) (hgl : Good L.length l) (hnl : (nxF L c lg l).length ≤ 1000000) :
  Calls Tryd.prog 8 #[.agg #[.slice A L.length cap, .int .i64 start, .int .i64 ncap], .slice Ap pcs.length cp, .int .i32 r1, .int .i32 c, .int .i32 r2, .bool lg] w0 fun e w' => ∃ v1 v2, e = .returned (.tuple #[v1, v2, .bool (mdF L l)]) ∧ w'.ownsRow w0.heap.size 3 1 v1 lf.length (natC lf) ∧ w'.ownsRow w0.heap.size 4 1 v2 lf.length (waitC L lf) ∧ Below w0.heap.size w0 w' := by
 have hL := S.len; have hL0 := S.pos
 have CR1 : Hid (∀ W, Below w0.heap.size w0 W → Calls Tryd.prog 21 #[.agg #[.slice A L.length cap, .int .i64 start, .int .i64 ncap], .slice Ap pcs.length cp, .int .i32 r1, .int .i32 c] W fun e w' => ∃ v1 v2, e = .returned (.tuple #[v1, v2]) ∧ w'.ownsRow W.heap.size 3 1 v1 l.length (natC l) ∧ w'.ownsRow W.heap.size 4 1 v2 l.length (waitC L l) ∧ Below W.heap.size W w') :=
  Lib.hid fun W hb => reach_c L A cap start ncap W (Kd.C_below hK hb) hcap S.out (by omega) hL0 Ap cp pcs ((hA.below hb (Nat.le_refl _)).more hb.size) hp hpl r1 c cond hc1 k l hk
 have CR2 : Hid (∀ W An cn, Below w0.heap.size w0 W → IntsAt W W.heap.size .i64 An ((nxF L c lg l).map fun (x : Nat) => (x : Int)) → Calls Tryd.prog 21 #[.agg #[.slice A L.length cap, .int .i64 start, .int .i64 ncap], .slice An (nxF L c lg l).length cn, .int .i32 c, .int .i32 r2] W fun e w' => ∃ v1 v2, e = .returned (.tuple #[v1, v2]) ∧ w'.ownsRow W.heap.size 3 1 v1 lf.length (natC lf) ∧ w'.ownsRow W.heap.size 4 1 v2 lf.length (waitC L lf) ∧ Below W.heap.size W w') :=
  Lib.hid fun W An cn hb hi => reach_c L A cap start ncap W (Kd.C_below hK hb) hcap S.out (by omega) hL0 An cn _ hi (nx_lt S.out l hgl.2) hnl c r2 cond2 hc2 k lf hk2
 obtain ⟨NX, hNX⟩ : ∃ NX, nxF L c lg l = NX := ⟨_, rfl⟩
 obtain ⟨MD, hMD⟩ : ∃ MD, mdF L l = MD := ⟨_, rfl⟩
 rw [hNX] at CR2
 rw [hMD]
 have HNX := Lib.hid hNX; have HMD := Lib.hid hMD
 have HK := Lib.hid hK; have HS := Lib.hid S; have HF := Lib.hid hF; have HGL := Lib.hid hgl
 have hll := hgl.len
 have bc0 : decide (0 ≤ c) = true := decide_eq_true h0
 clear hK S hF hA hp hc1 hc2 hk hk2 hgl hnl hNX hMD h0
 go_enter Tryd.func8, Tryd.ntmps8
 have HB1 := Lib.hid ((Below.refl w0.heap.size w0).alloc (Nat.le_refl _) (.cells #[.slice A L.length cap, .int .i64 start, .int .i64 ncap] 24))
 have HX1 := Lib.hid (Mem.blk_new w0 (.cells #[.slice A L.length cap, .int .i64 start, .int .i64 ncap] 24))
 go_upto_region 3 with (go_at_call 21; refine (Calls.mono (CR1.out _ HB1.out) ?_); rintro e w2 ⟨v1, v2, rfl, hl, hw2, hb2⟩; obtain ⟨Al, cl, hv1⟩ := own_slice hl; subst hv1; have HLI := Lib.hid (nat_ints hl); have HB2 := Lib.hid (HB1.out.trans (hb2.mono HB1.out.size)); have HX2 := Lib.hid ((hb2.block _ (lt_of_block HX1.out)).trans HX1.out); clear hl hw2 hb2)
 clear CR1 HB1 HX1
 go_wp2_with fail
 go_loopg [31, 17, 14] (l.length + 1) (fun gg s31 s17 s14 wx => ∃ (j : Nat) (nx : List Nat) (md : Bool), s31 = .int .i64 j ∧ s14 = .bool md ∧ j ≤ l.length ∧ l.length - j < gg ∧ Hid (wx.ownsRow w2.heap.size 3 1 s17 nx.length (natC nx)) ∧ Hid (nx ++ nxF L c lg (l.drop j) = NX) ∧ Hid ((md || mdF L (l.drop j)) = MD) ∧ nx.length ≤ j ∧ Hid (Below w2.heap.size w2 wx))
 case atStart => exact ⟨0, [], false, rfl, rfl, by omega, by omega, Lib.hid (World.ownsRow_nil _ _ _ _), Lib.hid (by simpa using HNX.out), Lib.hid (by simpa using HMD.out), by simp, Lib.hid (Below.refl _ _)⟩
 case round =>
  obtain ⟨j, nx, md, rfl, rfl, hj, hg, HN1, HNF, HMF, hnj, HBx⟩ := hrel
  obtain ⟨g', rfl⟩ : ∃ g', gk = g' + 1 := ⟨gk - 1, by omega⟩
  have hbx : Below w0.heap.size w0 wr := HB2.out.trans (HBx.out.mono HB2.out.size)
  have HBW := Lib.hid hbx
  have kX := low HBx.out (cell_at HX2.out (i := 0) rfl)
  have kX1 := low HBx.out (cell_at HX2.out (i := 1) rfl)
  have kX2 := low HBx.out (cell_at HX2.out (i := 2) rfl)
  obtain ⟨An, cn, hvn⟩ := own_slice HN1.out
  subst hvn
  by_cases hlt : j < l.length
  ·have hb0 : decide ((j : Int) < (l.length : Int)) = true := decide_eq_true (by omega)
   obtain ⟨zb, zo, hAl, _, hcz⟩ := HLI.out (by simp; omega)
   have x0 := low HBx.out (hcz j (by simpa using hlt))
   have hx : (l.map fun (x : Nat) => (x : Int)).getD j 0 = ((l.getD j 0 : Nat) : Int) := by simp [List.getD_eq_getElem?_getD, hlt]
   rw [hx] at x0
   subst hAl
   have hpx : l.getD j 0 < L.length := HGL.out.2 _ (getD_mem hlt)
   have hdr : l.drop j = l.getD j 0 :: l.drop (j + 1) := by
    rw [List.drop_eq_getElem_cons hlt]
    simp [List.getD_eq_getElem?_getD, hlt]
   have hnf := HNF.out
   have hmf := HMF.out
   rw [hdr] at hnf hmf
   rw [md_cons] at hmf
   generalize l.getD j 0 = x at *
   have hK1 := elem4 HK.out hpx
   have hwf := wait_f (inAt L x)
   have hrl := HS.out.rl x hpx
   have hr8 := HS.out.r8 x hpx
   have hr7 := HS.out.r7 x hpx
   have hwo := fun (h4 : (inAt L x).f0 ≠ 4) (hw : waitB (inAt L x) = true) => out_nat HS.out.out hpx ⟨h4, fun h5 => by rw [wait_no (by omega)] at hw; simp at hw⟩
   have hn4 := nx_four (L := L) (c := c) (lg := lg) (pc := x) (r := l.drop (j + 1))
   have hno := nx_other (L := L) (c := c) (lg := lg) (pc := x) (r := l.drop (j + 1))
   generalize hNR : nxF L c lg (l.drop (j + 1)) = NR at *
   generalize nxF L c lg (x :: l.drop (j + 1)) = NXX at *
   generalize inAt L x = I at *
   obtain ⟨bI, oI, A3, c3, rfl, e0, e1, e2, e3, l3, g3⟩ := hK1
   have CW : Hid (∀ W, Below w0.heap.size w0 W → Calls Tryd.prog 22 #[.agg #[.int .i64 I.f0, .int .i64 I.f1, .int .i64 I.f2, .slice A3 I.f3.length c3]] W fun e w' => e = .returned (.bool (waitB I)) ∧ Below W.heap.size W w') :=
    Lib.hid fun W hb => (spec_progWaits.calls I.f0 I.f1 I.f2 A3 c3 I.f3 (waitB I) W (Kd.C_below g3 hb) l3 hwf).mono fun e w' h => ⟨h.1, h.2⟩
   have CT0 : Hid (I.f0 ≠ 4 → waitB I = true → ∀ W, Below w0.heap.size w0 W → Calls Tryd.prog 23 #[.agg #[.int .i64 I.f0, .int .i64 I.f1, .int .i64 I.f2, .slice A3 I.f3.length c3], .int .i32 c] W fun e w' => e = .returned (.bool (takesF I c)) ∧ Below W.heap.size W w') :=
    Lib.hid fun h4 hw W hb => takes_c I A3 c3 c W (HF.out.below hb hB0) (Nat.le_trans hB0 hb.size) (Kd.C_below g3 hb) l3 hrl hr8 (fun a1 a2 a3 a4 => hr7 h4 a1 a2 a3 hw a4)
   obtain ⟨op, f1, f2, rs⟩ := I
   simp only at *
   have HNRe := Lib.hid hNR
   replace e0 := low HBW.out e0
   replace e1 := low HBW.out e1
   replace e2 := low HBW.out e2
   replace e3 := low HBW.out e3
   clear hwf hrl hr8 hr7 l3 g3 hcz hdr hbx hx hNR HNF HMF
   have HWO := Lib.hid hwo; have HN4 := Lib.hid hn4; have HNO := Lib.hid hno; have HNF2 := Lib.hid hnf; have HMF2 := Lib.hid hmf
   clear hwo hn4 hno hnf hmf
   go_upto_region 7 with fail
   have hba : Below wr.heap.size wr (wr.alloc (.cells #[.int .i64 op, .int .i64 f1, .int .i64 f2, .slice A3 rs.length c3] 55)) := (Below.refl _ wr).alloc (Nat.le_refl _) _
   have HB4 := Lib.hid (HBx.out.trans (hba.mono HBx.out.size))
   have HN4r := Lib.hid (World.ownsRow.alloc HN1.out (.cells #[.int .i64 op, .int .i64 f1, .int .i64 f2, .slice A3 rs.length c3] 55))
   have HBW4 := Lib.hid (HBW.out.trans (hba.mono HBW.out.size))
   have hnew := Mem.blk_new wr (.cells #[.int .i64 op, .int .i64 f1, .int .i64 f2, .slice A3 rs.length c3] 55)
   replace kX := low hba kX
   replace kX1 := low hba kX1
   replace kX2 := low hba kX2
   clear e0 e1 e2 e3 x0 hba
   generalize wr.alloc (.cells #[.int .i64 op, .int .i64 f1, .int .i64 f2, .slice A3 rs.length c3] 55) = w4 at *
   generalize wr.heap.size = T at *
   have n0 : w4.cell? ⟨T, 0, none⟩ = some (.int .i64 op) := cell_at hnew rfl
   have n1 : w4.cell? ⟨T, 1, none⟩ = some (.int .i64 f1) := cell_at hnew rfl
   have n2 : w4.cell? ⟨T, 2, none⟩ = some (.int .i64 f2) := cell_at hnew rfl
   have n3 : w4.cell? ⟨T, 3, none⟩ = some (.slice A3 rs.length c3) := cell_at hnew rfl
   clear hnew HN1 HBx HBW
   by_cases h4 : op = 4
   ·subst h4
    have hnx := HN4.out rfl
    have hnf := HNF2.out
    have hmf := HMF2.out
    rw [hnx] at hnf
    rw [decide_eq_true rfl, Bool.true_or, Bool.or_true] at hmf
    clear hnx CT0 CW HNO
    cases lg with
    | true =>
     rw [if_pos rfl, ← HNRe.out] at hnf
     have HNF3 := Lib.hid hnf; have HMF3 := Lib.hid hmf
     clear hnf hmf
     go_wp2_with fail
     go_roundg g'
     case rel => exact ⟨j + 1, nx, true, by go_num, rfl, by omega, by omega, HN4r, HNF3, Lib.hid (by rw [Bool.true_or]; exact HMF3.out), by omega, HB4⟩
     case measure => omega
    | false =>
     rw [if_neg (by decide), List.append_nil] at hnf
     subst hnf
     subst hmf
     have HI := Lib.hid (nat_ints HN4r.out)
     go_wp2_with (go_at_call 21; refine (Calls.mono (CR2.out _ _ _ HBW4.out HI.out) ?_); rintro e w5 ⟨v5, v6, rfl, ho5, ho6, hb5⟩; have HO5 := Lib.hid (World.ownsRow.mono ho5 HBW4.out.size); have HO6 := Lib.hid (World.ownsRow.mono ho6 HBW4.out.size); have HB5 := Lib.hid (HBW4.out.trans (hb5.mono HBW4.out.size)); clear ho5 ho6 hb5)
     refine bodyPost_ret (v := .tuple #[v5, v6, .bool true]) (by simp [results, Tryd.results8, go_sem]; try rfl) rfl ?_
     exact ⟨v5, v6, rfl, HO5.out, HO6.out, HB5.out⟩
   ·have b4 : (op == 4) = false := by simp [h4]
    have hnx := HNO.out h4
    have hnf := HNF2.out
    have hmf := HMF2.out
    rw [hnx] at hnf
    rw [decide_eq_false h4, Bool.false_or] at hmf
    have HMF3 := Lib.hid hmf
    have hwo := fun hw => HWO.out h4 hw
    have ct := CT0.out h4
    clear hnx hmf CT0 HNO HN4 HWO
    generalize waitB ⟨op, f1, f2, rs⟩ = wb at *
    cases wb with
    | false =>
     rw [Bool.false_and, if_neg (by decide), ← HNRe.out] at hnf
     have HNF3 := Lib.hid hnf
     clear hnf h4 hwo ct
     go_wp2_with (go_at_call 22; refine (Calls.mono (CW.out _ HBW4.out) ?_); rintro e w5 ⟨rfl, hb5⟩; have HBW5 := Lib.hid (HBW4.out.trans (hb5.mono HBW4.out.size)); have HB5 := Lib.hid (HB4.out.trans (hb5.mono HB4.out.size)); have HN5 := Lib.hid (own4_keep HN4r.out fun b hv => hb5.block b (World.ownsRow.lt HN4r.out b hv).2); have m0 := low hb5 n0; have m1 := low hb5 n1; have m2 := low hb5 n2; have m3 := low hb5 n3; clear hb5 n0 n1 n2 n3)
     go_roundg g'
     case rel => exact ⟨j + 1, nx, md, by go_num, rfl, by omega, by omega, HN5, HNF3, HMF3, by omega, HB5⟩
     case measure => omega
    | true =>
     have CT := Lib.hid (ct rfl)
     obtain ⟨ho1, ho2⟩ := hwo rfl
     obtain ⟨o1, rfl⟩ : ∃ o1 : Nat, f1 = o1 := ⟨f1.toNat, ho2.symm⟩
     rw [Int.toNat_natCast] at ho1 hnf
     generalize takesF ⟨op, o1, f2, rs⟩ c = tb at *
     rw [Bool.true_and, ← HNRe.out] at hnf
     cases tb with
     | false =>
      rw [if_neg (by decide)] at hnf
      have HNF3 := Lib.hid hnf
      clear hnf h4 hwo ct ho2
      go_wp2_with (first
       | (go_at_call 22; refine (Calls.mono (CW.out _ HBW4.out) ?_); rintro e w5 ⟨rfl, hb5⟩; have HBW5 := Lib.hid (HBW4.out.trans (hb5.mono HBW4.out.size)); have HB5 := Lib.hid (HB4.out.trans (hb5.mono HB4.out.size)); have HN5 := Lib.hid (own4_keep HN4r.out fun b hv => hb5.block b (World.ownsRow.lt HN4r.out b hv).2); have m0 := low hb5 n0; have m1 := low hb5 n1; have m2 := low hb5 n2; have m3 := low hb5 n3; clear hb5 n0 n1 n2 n3)
       | (go_at_call 23; refine (Calls.mono (CT.out _ HBW5.out) ?_); rintro e w6 ⟨rfl, hb6⟩; have HB6 := Lib.hid (HB5.out.trans (hb6.mono HB5.out.size)); have HN6 := Lib.hid (own4_keep HN5.out fun b hv => hb6.block b (World.ownsRow.lt HN5.out b hv).2); have p1 := low hb6 m1; clear hb6 m0 m1 m2 m3))
      go_roundg g'
      case rel => exact ⟨j + 1, nx, md, by go_num, rfl, by omega, by omega, HN6, HNF3, HMF3, by omega, HB6⟩
      case measure => omega
     | true =>
      rw [if_pos rfl] at hnf
      have HNF3 := Lib.hid hnf
      clear hnf h4 hwo ct ho2
      go_wp2_with (first
       | (go_at_call 22; refine (Calls.mono (CW.out _ HBW4.out) ?_); rintro e w5 ⟨rfl, hb5⟩; have HBW5 := Lib.hid (HBW4.out.trans (hb5.mono HBW4.out.size)); have HB5 := Lib.hid (HB4.out.trans (hb5.mono HB4.out.size)); have HN5 := Lib.hid (own4_keep HN4r.out fun b hv => hb5.block b (World.ownsRow.lt HN4r.out b hv).2); have m0 := low hb5 n0; have m1 := low hb5 n1; have m2 := low hb5 n2; have m3 := low hb5 n3; clear hb5 n0 n1 n2 n3)
       | (go_at_call 23; refine (Calls.mono (CT.out _ HBW5.out) ?_); rintro e w6 ⟨rfl, hb6⟩; have HB6 := Lib.hid (HB5.out.trans (hb6.mono HB5.out.size)); have HN6 := Lib.hid (own4_keep HN5.out fun b hv => hb6.block b (World.ownsRow.lt HN5.out b hv).2); have p1 := low hb6 m1; clear hb6 m0 m1 m2 m3)
       | (at_builtin; refine Mem.wp_app1 rfl _ _ _ rfl w2.heap.size 3 (.int .i64 0) 8 Tryd.underlying25 info_int rfl _ nx.length (natC nx) rfl HN6.out (.int .i64 (o1 : Nat)) rfl rfl (by unfold maxLen; omega) (by omega) HB6.out.size ?_; intro v7 w7 ho7 hg7 hb7; have HN7 := Lib.hid ho7; have HB7 := Lib.hid (HB6.out.trans hb7); clear ho7 hg7 hb7))
      go_roundg g'
      case rel => exact ⟨j + 1, nx ++ [o1], md, by go_num, rfl, by omega, by omega, Lib.hid (by rw [natC_snoc, List.length_append]; exact HN7.out), Lib.hid (by rw [List.append_assoc]; exact HNF3.out), HMF3, by rw [List.length_append, List.length_singleton]; omega, HB7⟩
      case measure => omega
  ·have hb0 : decide ((j : Int) < (l.length : Int)) = false := decide_eq_false (by omega)
   have hnf := HNF.out
   have hmf := HMF.out
   rw [List.drop_eq_nil_of_le (by omega)] at hnf hmf
   simp only [nxF, List.append_nil] at hnf
   simp only [mdF, List.any_nil, Bool.or_false] at hmf
   subst hnf
   subst hmf
   have HI := Lib.hid (nat_ints HN1.out)
   clear HNF HMF
   go_wp2_with (go_at_call 21; refine (Calls.mono (CR2.out _ _ _ HBW.out HI.out) ?_); rintro e w5 ⟨v5, v6, rfl, ho5, ho6, hb5⟩; have HO5 := Lib.hid (World.ownsRow.mono ho5 HBW.out.size); have HO6 := Lib.hid (World.ownsRow.mono ho6 HBW.out.size); have HB5 := Lib.hid (HBW.out.trans (hb5.mono HBW.out.size)); clear ho5 ho6 hb5)
   refine bodyPost_ret (v := .tuple #[v5, v6, .bool md]) (by simp [results, Tryd.results8, go_sem]; try rfl) rfl ?_
   exact ⟨v5, v6, rfl, HO5.out, HO6.out, HB5.out⟩
end
end Go.Proofs.YtcncclglmgdinaaDoor.Ps
namespace Go.Proofs.YtcncclglmgdinaaDoor.Ps
open Go.RowKit Mem Go.Proofs.YtcncclglmgdinaaDoor.Fold Go.Proofs.YtcncclglmgdinaaDoor.PFnPgStep Go.Proofs.YtcncclglmgdinaaDoorW.PrintWords Go.Proofs.YtcncclglmgdinaaDoorW.PrintLast Go.Proofs.YtcncclglmgdinaaDoorW.PrintMore
set_option linter.unusedVariables false
theorem box3 {w : World} {b : Nat} {v0 v1 v2 : Value} {t : TypeId} (h : w.heap[b]? = some (.cells #[v0, v1, v2] t (0, 0))) : w.cell? ⟨b, 0, none⟩ = some v0 ∧ w.cell? ⟨b, 1, none⟩ = some v1 ∧ w.cell? ⟨b, 2, none⟩ = some v2 :=
 ⟨cell_at h rfl, cell_at h rfl, cell_at h rfl⟩
theorem nx_len {L : List In} {c : Int} {lg : Bool} : ∀ (l : List Nat), (nxF L c lg l).length ≤ l.length
 | [] => by simp [nxF]
 | pc :: r => by
  have ih := nx_len (L := L) (c := c) (lg := lg) r
  simp only [nxF]
  repeat' split
  all_goals first
   | (simp only [List.length_cons]; omega)
   | simp
theorem put_l (L : List In) (zs : List Int) (st ncap : Int) (hl : zs.length ≤ 1000) : ∀ (k i : Nat), zs.length < i + k → i ≤ zs.length → ∃ r, laws_pgPut.l0 k zs (zs.length : Int) (i : Int) L st ncap = some r ∧ (r = true → ∀ j, i ≤ j → j < zs.length → 0 ≤ zs.getD j 0 ∧ zs.getD j 0 < L.length)
 | 0, i, h, hi => by omega
 | k + 1, i, h, hi => by
  have hw1 : wrap64 ((i : Int) + 1) = ((i + 1 : Nat) : Int) := by unfold wrap64; omega
  simp only [laws_pgPut.l0, hw1, rdN]
  by_cases h1 : i < zs.length
  ·rw [if_pos (by omega), if_pos (by omega), if_pos (by omega)]
   by_cases h2 : zs.getD i 0 < 0
   ·rw [if_pos h2]; exact ⟨false, rfl, by simp⟩
   ·rw [if_neg h2]
    by_cases h3 : zs.getD i 0 ≥ (L.length : Int)
    ·rw [if_pos h3]; exact ⟨false, rfl, by simp⟩
    ·rw [if_neg h3]
     obtain ⟨r, e, hr⟩ := put_l L zs st ncap hl k (i + 1) (by omega) (by omega)
     refine ⟨r, e, fun ht j a b => ?_⟩
     by_cases hj : j = i
     ·subst hj; omega
     ·exact hr ht j (by omega) b
  ·rw [if_neg (by omega)]
   exact ⟨true, rfl, fun _ j a b => by omega⟩
theorem put_ex (L : List In) (zs : List Int) (st ncap r1 c r2 : Int) (hx : ∀ I ∈ L, Fits I.f3.length) : ∃ k r, laws_pgPut.f k L st ncap zs r1 c r2 = some r ∧ (r = true → zs.length ≤ 100 ∧ sndB 2000 L st ncap = true ∧ (-1 ≤ r1 ∧ r1 ≤ 1114111) ∧ (-1 ≤ c ∧ c ≤ 1114111) ∧ (-1 ≤ r2 ∧ r2 ≤ 1114111) ∧ ∀ j, j < zs.length → 0 ≤ zs.getD j 0 ∧ zs.getD j 0 < L.length) := by
 by_cases hl : zs.length ≤ 100
 ·obtain ⟨K, hK0⟩ := snd_ev 2000 (Nat.le_refl _) L st ncap hx
  have hK : ∀ k, K ≤ k → spec_ProgSound.f k L st ncap 2000 = some (sndB 2000 L st ncap) := hK0
  have hj : ∀ k b, laws_pgPut.j0 (k + 1) zs b L st ncap = if b = true then some false else laws_pgPut.l0 k zs (zs.length : Int) 0 L st ncap := fun k b => by simp only [laws_pgPut.j0]
  obtain ⟨r, e, hr⟩ := put_l L zs st ncap (by omega) (K + 101) 0 (by omega) (by omega)
  refine ⟨K + 101 + 1, ?_⟩
  simp only [laws_pgPut.f]
  rw [if_neg (by omega), hK (K + 101 + 1) (by omega), Option.bind_some, hj, hj]
  simp only [if_true]
  cases hs : sndB 2000 L st ncap with
  | false => exact ⟨false, by simp, by simp⟩
  | true =>
   simp only [if_true]
   by_cases a1 : r1 < -1
   ·rw [if_pos a1]; exact ⟨false, rfl, by simp⟩
   rw [if_neg a1]
   by_cases a2 : c < -1
   ·rw [if_pos a2]; exact ⟨false, rfl, by simp⟩
   rw [if_neg a2]
   by_cases a3 : r2 < -1
   ·rw [if_pos a3]; exact ⟨false, rfl, by simp⟩
   rw [if_neg a3]
   by_cases a4 : r1 > 1114111
   ·rw [if_pos a4]; exact ⟨false, rfl, by simp⟩
   rw [if_neg a4]
   by_cases a5 : c > 1114111
   ·rw [if_pos a5]; exact ⟨false, rfl, by simp⟩
   rw [if_neg a5]
   by_cases a6 : r2 > 1114111
   ·rw [if_pos (decide_eq_true a6)]; exact ⟨false, rfl, by simp⟩
   rw [if_neg (by simpa using a6)]
   exact ⟨r, e, fun ht => ⟨hl, by first | rfl | trivial, by omega, by omega, by omega, fun j hj => hr ht j (Nat.zero_le _) hj⟩⟩
 ·refine ⟨1, false, ?_, by simp⟩
  simp only [laws_pgPut.f]
  rw [if_pos (by omega)]
  simp [laws_pgPut.j0]
theorem sameI_l (l : List Int) (hl : l.length ≤ 1000000) : ∀ (k i : Nat), l.length < i + k → i ≤ l.length → spec_SameInts.l0 k l l (l.length : Int) (i : Int) = some true
 | 0, i, h, hi => by omega
 | k + 1, i, h, hi => by
  have hw1 : wrap64 ((i : Int) + 1) = ((i + 1 : Nat) : Int) := by unfold wrap64; omega
  simp only [spec_SameInts.l0, hw1]
  by_cases h1 : i < l.length
  ·rw [if_pos (by omega), if_pos (by omega), if_pos (by omega), if_pos (by omega), if_pos trivial]
   exact sameI_l l hl k (i + 1) (by omega) (by omega)
  ·rw [if_neg (by omega)]
theorem sameB_l (l : List Bool) (hl : l.length ≤ 1000000) : ∀ (k i : Nat), l.length < i + k → i ≤ l.length → spec_SameBools.l0 k l l (l.length : Int) (i : Int) = some true
 | 0, i, h, hi => by omega
 | k + 1, i, h, hi => by
  have hw1 : wrap64 ((i : Int) + 1) = ((i + 1 : Nat) : Int) := by unfold wrap64; omega
  simp only [spec_SameBools.l0, hw1]
  by_cases h1 : i < l.length
  ·rw [if_pos (by omega), if_pos (by omega), if_pos (by omega), if_pos (by omega), if_neg (by simp)]
   exact sameB_l l hl k (i + 1) (by omega) (by omega)
  ·rw [if_neg (by omega)]
theorem sameI (l : List Int) (hl : l.length ≤ 1000000) : spec_SameInts.f (l.length + 1) l l = some true := by
 unfold spec_SameInts.f
 rw [if_pos rfl]
 exact sameI_l l hl (l.length + 1) 0 (by omega) (by omega)
theorem sameB (l : List Bool) (hl : l.length ≤ 1000000) : spec_SameBools.f (l.length + 1) l l = some true := by
 unfold spec_SameBools.f
 rw [if_pos rfl]
 exact sameB_l l hl (l.length + 1) 0 (by omega) (by omega)
theorem nat_map {zs : List Int} (h : ∀ j, j < zs.length → 0 ≤ zs.getD j 0) : ((zs.map Int.toNat).map fun (x : Nat) => (x : Int)) = zs := by
 rw [List.map_map]
 refine List.ext_getElem (by simp) fun i a b => ?_
 have := h i b
 simp only [List.getD_eq_getElem?_getD, List.getElem?_eq_getElem b, Option.getD_some] at this
 simp only [List.getElem_map, Function.comp]
 omega
section
variable (L : List In) (A : Option Addr) (cap : Nat) (st ncap : Int) (zs : List Int) (Az : Option Addr) (cz : Nat) (r1 c r2 : Int) (lg : Bool)
set_option maxRecDepth 100000 in
set_option maxHeartbeats 8000000 in
theorem law_c (w : World) {B0 : Nat} (hF : FoldV B0 w) (hB0 : B0 ≤ w.heap.size) (hm : MSz w) (hG : 0 < w.heap.size) (hK : k55.C w A L.length L) (hcap : L.length ≤ cap) (hZ : Kd.C (Kd.int .i64) w Az zs.length zs) (hcz : zs.length ≤ cz) :
  Calls Tryd.prog 3 #[.agg #[.slice A L.length cap, .int .i64 st, .int .i64 ncap], .slice Az zs.length cz, .int .i32 r1, .int .i32 c, .int .i32 r2, .bool lg] w fun e w' => e = .returned (.bool true) ∧ Below w.heap.size w w' := by
 have hfz : ∀ I ∈ L, Fits I.f3.length := fun I hI => by
  obtain ⟨j, hj, rfl⟩ := List.getElem_of_mem hI
  obtain ⟨bI, oI, A3, c3, _, _, _, _, _, _, g3⟩ := elem4 hK hj
  have := g3.2.1
  rw [show inAt L j = L[j] by simp [inAt, List.getD_eq_getElem?_getD, hj]] at this
  exact this
 obtain ⟨kz, hkz⟩ := ev_ex (zz_ev L st ncap)
 obtain ⟨kp, pb, hkp, hpb⟩ := put_ex L zs st ncap r1 c r2 hfz
 have HB1 := Lib.hid ((Below.refl w.heap.size w).alloc (Nat.le_refl _) (.cells #[.slice A L.length cap, .int .i64 st, .int .i64 ncap] 24))
 have HX1 := Lib.hid (Mem.blk_new w (.cells #[.slice A L.length cap, .int .i64 st, .int .i64 ncap] 24))
 have CZ : Hid (∀ W, Below w.heap.size w W → Calls Tryd.prog 5 #[.agg #[.slice A L.length cap, .int .i64 st, .int .i64 ncap]] W fun e w' => e = .returned (.bool (zzB L)) ∧ Below W.heap.size W w') :=
  Lib.hid fun W hb => (laws_zzFits3.calls kz A cap L st ncap _ W (Kd.C_below hK hb) hcap hkz).mono fun e w' h => ⟨h.1, by first | exact h.2 | exact h.2.below⟩
 have CP : Hid (∀ W, Below w.heap.size w W → Calls Tryd.prog 6 #[.agg #[.slice A L.length cap, .int .i64 st, .int .i64 ncap], .slice Az zs.length cz, .int .i32 r1, .int .i32 c, .int .i32 r2] W fun e w' => e = .returned (.bool pb) ∧ Below W.heap.size W w') :=
  Lib.hid fun W hb => (laws_pgPut.calls kp A cap L st ncap Az cz zs r1 c r2 pb W (Kd.C_below hK hb) hcap (Kd.C_below hZ hb) hcz hkp).mono fun e w' h => ⟨h.1, by first | exact h.2 | exact h.2.below⟩
 have HPB := Lib.hid hpb
 clear hkz hkp hfz hpb
 by_cases hz : zzB L = true
 rotate_left
 ·have hzf : zzB L = false := by simpa using hz
  rw [hzf] at CZ
  by_cases hs : zs.length ≤ 2147483647
  ·have hs1 : decide ((2147483647 : Int) < (zs.length : Int)) = false := decide_eq_false (by omega)
   have hs2 : decide (2147483647 < zs.length) = false := decide_eq_false (by omega)
   clear hz hzf hZ hK hF hm CP HPB
   go_enter Tryd.func3, Tryd.ntmps3
   go_wp2_with (go_at_call 5; refine (Calls.mono (CZ.out _ HB1.out) ?_); rintro e wX ⟨rfl, hbX⟩; have HB2 := Lib.hid (HB1.out.trans (hbX.mono HB1.out.size)); have HX2 := Lib.hid ((hbX.block _ (lt_of_block HX1.out)).trans HX1.out); clear hbX; (try clear k0 k1 k2); obtain ⟨k0, k1, k2⟩ := box3 HX2.out)
   go_ret
   exact ⟨rfl, HB2.out⟩
  ·have hs1 : decide ((2147483647 : Int) < (zs.length : Int)) = true := decide_eq_true (by omega)
   have hs2 : decide (2147483647 < zs.length) = true := decide_eq_true (by omega)
   clear hz hzf hZ hK hF hm CP HPB
   go_enter Tryd.func3, Tryd.ntmps3
   go_wp2_with (go_at_call 5; refine (Calls.mono (CZ.out _ HB1.out) ?_); rintro e wX ⟨rfl, hbX⟩; have HB2 := Lib.hid (HB1.out.trans (hbX.mono HB1.out.size)); have HX2 := Lib.hid ((hbX.block _ (lt_of_block HX1.out)).trans HX1.out); clear hbX; (try clear k0 k1 k2); obtain ⟨k0, k1, k2⟩ := box3 HX2.out)
   go_ret
   exact ⟨rfl, HB2.out⟩
 rw [hz] at CZ
 by_cases hs : zs.length ≤ 2147483647
 rotate_left
 ·have hs1 : decide ((2147483647 : Int) < (zs.length : Int)) = true := decide_eq_true (by omega)
  have hs2 : decide (2147483647 < zs.length) = true := decide_eq_true (by omega)
  clear hz hZ hK hF hm CP HPB
  go_enter Tryd.func3, Tryd.ntmps3
  go_wp2_with (go_at_call 5; refine (Calls.mono (CZ.out _ HB1.out) ?_); rintro e wX ⟨rfl, hbX⟩; have HB2 := Lib.hid (HB1.out.trans (hbX.mono HB1.out.size)); have HX2 := Lib.hid ((hbX.block _ (lt_of_block HX1.out)).trans HX1.out); clear hbX; (try clear k0 k1 k2); obtain ⟨k0, k1, k2⟩ := box3 HX2.out)
  go_ret
  exact ⟨rfl, HB2.out⟩
 have hs1 : decide ((2147483647 : Int) < (zs.length : Int)) = false := decide_eq_false (by omega)
 have hs2 : decide (2147483647 < zs.length) = false := decide_eq_false (by omega)
 cases pb with
 | false =>
  clear hz hZ hK hF hm HPB
  by_cases hc : c < 0
  ·have hc1 : decide (c < 0) = true := decide_eq_true hc
   go_enter Tryd.func3, Tryd.ntmps3
   go_wp2_with (first
    | (go_at_call 5; refine (Calls.mono (CZ.out _ HB1.out) ?_); rintro e wX ⟨rfl, hbX⟩; have HB2 := Lib.hid (HB1.out.trans (hbX.mono HB1.out.size)); have HX2 := Lib.hid ((hbX.block _ (lt_of_block HX1.out)).trans HX1.out); clear hbX; (try clear k0 k1 k2); obtain ⟨k0, k1, k2⟩ := box3 HX2.out)
    | (go_at_call 6; refine (Calls.mono (CP.out _ HB2.out) ?_); rintro e wX ⟨rfl, hbX⟩; have HB3 := Lib.hid (HB2.out.trans (hbX.mono HB2.out.size)); have HX3 := Lib.hid ((hbX.block _ (lt_of_block HX2.out)).trans HX2.out); clear hbX; (try clear k0 k1 k2); obtain ⟨k0, k1, k2⟩ := box3 HX3.out))
   go_ret
   exact ⟨rfl, HB3.out⟩
  ·have hc1 : decide (c < 0) = false := decide_eq_false hc
   go_enter Tryd.func3, Tryd.ntmps3
   go_wp2_with (first
    | (go_at_call 5; refine (Calls.mono (CZ.out _ HB1.out) ?_); rintro e wX ⟨rfl, hbX⟩; have HB2 := Lib.hid (HB1.out.trans (hbX.mono HB1.out.size)); have HX2 := Lib.hid ((hbX.block _ (lt_of_block HX1.out)).trans HX1.out); clear hbX; (try clear k0 k1 k2); obtain ⟨k0, k1, k2⟩ := box3 HX2.out)
    | (go_at_call 6; refine (Calls.mono (CP.out _ HB2.out) ?_); rintro e wX ⟨rfl, hbX⟩; have HB3 := Lib.hid (HB2.out.trans (hbX.mono HB2.out.size)); have HX3 := Lib.hid ((hbX.block _ (lt_of_block HX2.out)).trans HX2.out); clear hbX; (try clear k0 k1 k2); obtain ⟨k0, k1, k2⟩ := box3 HX3.out))
   go_ret
   exact ⟨rfl, HB3.out⟩
 | true =>
 by_cases hc : c < 0
 ·have hc1 : decide (c < 0) = true := decide_eq_true hc
  clear hz hZ hK hF hm HPB
  go_enter Tryd.func3, Tryd.ntmps3
  go_wp2_with (first
   | (go_at_call 5; refine (Calls.mono (CZ.out _ HB1.out) ?_); rintro e wX ⟨rfl, hbX⟩; have HB2 := Lib.hid (HB1.out.trans (hbX.mono HB1.out.size)); have HX2 := Lib.hid ((hbX.block _ (lt_of_block HX1.out)).trans HX1.out); clear hbX; (try clear k0 k1 k2); obtain ⟨k0, k1, k2⟩ := box3 HX2.out)
   | (go_at_call 6; refine (Calls.mono (CP.out _ HB2.out) ?_); rintro e wX ⟨rfl, hbX⟩; have HB3 := Lib.hid (HB2.out.trans (hbX.mono HB2.out.size)); have HX3 := Lib.hid ((hbX.block _ (lt_of_block HX2.out)).trans HX2.out); clear hbX; (try clear k0 k1 k2); obtain ⟨k0, k1, k2⟩ := box3 HX3.out))
  go_ret
  exact ⟨rfl, HB3.out⟩
 have hcb : decide (c < 0) = false := decide_eq_false hc
 obtain ⟨hzl, hsn, hr1, hrc, hr2, hzr⟩ := HPB.out rfl
 obtain ⟨start, rfl, S⟩ := sq_of (Nat.le_refl 2000) hz hsn
 obtain ⟨pcs, hpcs⟩ : ∃ pcs : List Nat, zs.map Int.toNat = pcs := ⟨_, rfl⟩
 have hnm := nat_map (fun j hj => (hzr j hj).1)
 rw [hpcs] at hnm
 have hpl : pcs.length = zs.length := by rw [← hpcs, List.length_map]
 have hpp : ∀ x ∈ pcs, x < L.length := fun x hx => by
  rw [← hpcs] at hx
  obtain ⟨z, hzm, rfl⟩ := List.mem_map.1 hx
  obtain ⟨j, hj, rfl⟩ := List.getElem_of_mem hzm
  have := hzr j hj
  simp only [List.getD_eq_getElem?_getD, List.getElem?_eq_getElem hj, Option.getD_some] at this
  omega
 obtain ⟨cond, hc1⟩ := cond_f r1 c
 obtain ⟨cond2, hc2⟩ := cond_f c r2
 obtain ⟨l0, hk1, hg0⟩ := reachF_some cond S.out (L.length + 1) (by omega) pcs [] ⟨List.nodup_nil, by simp⟩ hpp
 obtain ⟨lf, hk2, hgf⟩ := reachF_some cond2 S.out (L.length + 1) (by omega) (nxF L c lg l0) [] ⟨List.nodup_nil, by simp⟩ (nx_lt S.out l0 hg0.2)
 have hL2 := S.len
 have hl0 := hg0.len
 have hlf := hgf.len
 have hnl := nx_len (L := L) (c := c) (lg := lg) l0
 have hzi := ints_kd hZ
 rw [← hnm] at hzi
 obtain ⟨QI, hQI⟩ : ∃ QI, (lf.map fun (x : Nat) => (x : Int)) = QI := ⟨_, rfl⟩
 obtain ⟨QB, hQB⟩ : ∃ QB, (lf.map fun x => waitB (inAt L x)) = QB := ⟨_, rfl⟩
 obtain ⟨MD, hMD⟩ : ∃ MD, mdF L l0 = MD := ⟨_, rfl⟩
 have hql : QI.length = lf.length := by rw [← hQI, List.length_map]
 have hqb : QB.length = lf.length := by rw [← hQB, List.length_map]
 have CS : Hid (∀ W, Below w.heap.size w W → Calls Tryd.prog 7 #[.agg #[.slice A L.length cap, .int .i64 start, .int .i64 ncap], .slice Az zs.length cz, .int .i32 r1, .int .i32 c, .int .i32 r2, .bool lg] W fun e w' => ∃ A1 c1 A2 c2, e = .returned (.tuple #[.slice A1 QI.length c1, .slice A2 QB.length c2, .bool MD, .bool true]) ∧ QI.length ≤ c1 ∧ QB.length ≤ c2 ∧ Kd.C (Kd.int .i64) w' A1 QI.length QI ∧ Kd.C Kd.bool w' A2 QB.length QB ∧ Below W.heap.size W w') :=
  Lib.hid fun W hb => by
   have X := pgStep_c L A cap start ncap W (Kd.C_below hK hb) hcap S (fun i hi => low hb (hm i hi)) (Nat.lt_of_lt_of_le hG hb.size) B0 (hF.below hb hB0) (Nat.le_trans hB0 hb.size) r1 c r2 cond cond2 hr1 hrc hr2 hc1 hc2 lg Az cz pcs ((hzi.below hb (Nat.le_refl _)).more hb.size) (by omega) hpp (L.length + 1) l0 lf hk1 hk2
   rw [hpl] at X
   refine X.mono fun e w' hh => ?_
   obtain ⟨A1, c1, A2, c2, qi, qb, e1, e2, rfl, q1, q2, t1, t2, hb2⟩ := hh
   rw [hQI] at e1
   rw [hQB] at e2
   subst e1 e2
   exact ⟨A1, c1, A2, c2, by rw [hMD], q1, q2, t1, t2, hb2⟩
 have CG : Hid (∀ W, Below w.heap.size w W → Calls Tryd.prog 8 #[.agg #[.slice A L.length cap, .int .i64 start, .int .i64 ncap], .slice Az zs.length cz, .int .i32 r1, .int .i32 c, .int .i32 r2, .bool lg] W fun e w' => ∃ A1 c1 A2 c2, e = .returned (.tuple #[.slice A1 QI.length c1, .slice A2 QB.length c2, .bool MD]) ∧ QI.length ≤ c1 ∧ QB.length ≤ c2 ∧ Kd.C (Kd.int .i64) w' A1 QI.length QI ∧ Kd.C Kd.bool w' A2 QB.length QB ∧ Below W.heap.size W w') :=
  Lib.hid fun W hb => by
   have X := progStep_c L A cap start ncap W (Kd.C_below hK hb) hcap S (hF.below hb hB0) (Nat.le_trans hB0 hb.size) Az cz pcs ((hzi.below hb (Nat.le_refl _)).more hb.size) hpp (by omega) r1 c r2 cond cond2 hc1 hc2 (by omega) lg (L.length + 1) l0 lf hk1 hk2 hg0 (by omega)
   rw [hpl] at X
   refine X.mono fun e w' hh => ?_
   obtain ⟨v1, v2, rfl, ho1, ho2, hb2⟩ := hh
   obtain ⟨A1, c1, rfl⟩ := own_slice ho1
   obtain ⟨A2, c2, rfl⟩ := own_slice ho2
   rw [show natC lf = QI.map (Value.int .i64) by rw [← hQI]; simp [natC]] at ho1
   rw [show waitC L lf = QB.map Value.bool by rw [← hQB]; exact wait_map L lf] at ho2
   obtain ⟨e1, q1, t1⟩ := own_kd ho1 (by unfold maxLen; omega)
   obtain ⟨e2, q2, t2⟩ := own_kb ho2 (by unfold maxLen; omega)
   exact ⟨A1, c1, A2, c2, by rw [← e1, ← e2, hMD], q1, q2, t1, t2, hb2⟩
 have CI : Hid (∀ (W : World) (A0 : Option Addr) (c0 : Nat) (A1 : Option Addr) (c1 : Nat), Kd.C (Kd.int .i64) W A0 QI.length QI → QI.length ≤ c0 → Kd.C (Kd.int .i64) W A1 QI.length QI → QI.length ≤ c1 → Calls Tryd.prog 9 #[.slice A0 QI.length c0, .slice A1 QI.length c1] W fun e w' => e = .returned (.bool true) ∧ ∃ q, w' = W.drewN q) :=
  Lib.hid fun W A0 c0 A1 c1 a b d f => (spec_SameInts.calls (QI.length + 1) A0 c0 QI A1 c1 QI true W a b d f (sameI QI (by omega))).mono fun e w' h => ⟨h.1, h.2.out⟩
 have CB : Hid (∀ (W : World) (A0 : Option Addr) (c0 : Nat) (A1 : Option Addr) (c1 : Nat), Kd.C Kd.bool W A0 QB.length QB → QB.length ≤ c0 → Kd.C Kd.bool W A1 QB.length QB → QB.length ≤ c1 → Calls Tryd.prog 10 #[.slice A0 QB.length c0, .slice A1 QB.length c1] W fun e w' => e = .returned (.bool true) ∧ ∃ q, w' = W.drewN q) :=
  Lib.hid fun W A0 c0 A1 c1 a b d f => (spec_SameBools.calls (QB.length + 1) A0 c0 QB A1 c1 QB true W a b d f (sameB QB (by omega))).mono fun e w' h => ⟨h.1, h.2.out⟩
 have hmm : (MD == MD) = true := by simp
 clear hz hZ hK hF hm HPB hc hzl hsn hr1 hrc hr2 hzr S hpcs hnm hpl hpp hc1 hc2 hk1 hk2 hg0 hgf hl0 hlf hnl hzi hQI hQB hMD hql hqb
 go_enter Tryd.func3, Tryd.ntmps3
 go_wp2_with (first
  | (go_at_call 5; refine (Calls.mono (CZ.out _ HB1.out) ?_); rintro e wX ⟨rfl, hbX⟩; have HB2 := Lib.hid (HB1.out.trans (hbX.mono HB1.out.size)); have HX2 := Lib.hid ((hbX.block _ (lt_of_block HX1.out)).trans HX1.out); clear hbX; (try clear k0 k1 k2); obtain ⟨k0, k1, k2⟩ := box3 HX2.out)
  | (go_at_call 6; refine (Calls.mono (CP.out _ HB2.out) ?_); rintro e wX ⟨rfl, hbX⟩; have HB3 := Lib.hid (HB2.out.trans (hbX.mono HB2.out.size)); have HX3 := Lib.hid ((hbX.block _ (lt_of_block HX2.out)).trans HX2.out); clear hbX; (try clear k0 k1 k2); obtain ⟨k0, k1, k2⟩ := box3 HX3.out)
  | (go_at_call 7; refine (Calls.mono (CS.out _ HB3.out) ?_); rintro e w4 ⟨A1, c1, A2, c2, rfl, q1, q2, t1, t2, hb4⟩; have HB4 := Lib.hid (HB3.out.trans (hb4.mono HB3.out.size)); have HX4 := Lib.hid ((hb4.block _ (lt_of_block HX3.out)).trans HX3.out); have T1 := Lib.hid t1; have T2 := Lib.hid t2; have Q1 := Lib.hid q1; have Q2 := Lib.hid q2; clear hb4 t1 t2 q1 q2; (try clear k0 k1 k2); obtain ⟨k0, k1, k2⟩ := box3 HX4.out)
  | (go_at_call 8; refine (Calls.mono (CG.out _ HB4.out) ?_); rintro e w5 ⟨A3, c3, A4, c4, rfl, q3, q4, t3, t4, hb5⟩; have HB5 := Lib.hid (HB4.out.trans (hb5.mono HB4.out.size)); have T5 := Lib.hid (Kd.C_below T1.out hb5); have T6 := Lib.hid (Kd.C_below T2.out hb5); have T3 := Lib.hid t3; have T4 := Lib.hid t4; have Q3 := Lib.hid q3; have Q4 := Lib.hid q4; clear hb5 t3 t4 q3 q4 k0 k1 k2)
  | (go_at_call 9; refine (Calls.mono (CI.out _ _ _ _ _ T5.out Q1.out T3.out Q3.out) ?_); rintro e w6 ⟨rfl, q6, rfl⟩)
  | (go_at_call 10; refine (Calls.mono (CB.out _ _ _ _ _ (show Kd.C Kd.bool (World.drewN _ _) _ _ _ from T6.out) Q2.out (show Kd.C Kd.bool (World.drewN _ _) _ _ _ from T4.out) Q4.out) ?_); rintro e w7 ⟨rfl, q7, rfl⟩))
 go_ret
 exact ⟨rfl, Mem.below_drewN HB5.out _⟩
end
end Go.Proofs.YtcncclglmgdinaaDoor.Ps
namespace Go.Proofs.YtcncclglmgdinaaDoor.Fold
open Go.RowKit Go.Lib Go.ChangeShapes Go.WideShapes
set_option linter.unusedVariables false
theorem ascii_data : (Rows.laid_unicode_asciiFold : DataW Unit) = .agg (asciiL.map fun n => .lit (.int .u16 (n : Nat))) := by kernel_rfl
theorem orb_data : (Rows.laid_unicode_caseOrbit : DataW Unit) = .slice (orbL.map fun x => .agg ([(x.1 : Int), (x.2 : Int)].map fun z => .lit (.int .u16 z))) [] := by kernel_rfl
theorem ascii_of_reads {w : World} (h : VarReads Tryd.prog w "unicode.asciiFold" Rows.laid_unicode_asciiFold) : ∀ i, i < 128 → w.cell? ⟨1, i, none⟩ = some (.int .u16 ((asciiL.getD i 0 : Nat) : Int)) := by
 obtain ⟨g, t, cs, fuel, p, hg, hty, hvar, hd⟩ := h
 obtain rfl := Option.some.inj ((show Tryd.prog.globalNamed "unicode.asciiFold" = some 1 by kernel_rfl).symm.trans hg)
 obtain rfl := Option.some.inj ((show (Tryd.prog.globals[1]?).map (·.type) = some 164 by kernel_rfl).symm.trans hty)
 rw [ascii_data] at hd
 intro i hi
 obtain ⟨f', d, q, hd1, hd2⟩ := array_elem Tryd.underlying164 hd i hi
 have c1 : Tryd.prog.cellsOf 163 = 1 := by kernel_rfl
 have hl : i < asciiL.length := hi
 simp only [List.getElem?_map, List.getElem?_eq_getElem hl, Option.map_some, Option.some.injEq] at hd1
 subst hd1
 rw [c1] at hd2
 obtain ⟨z, hcz, hz, _⟩ := DataW.trod_int Tryd.underlying163 hd2
 simp only [Prod.mk.injEq, DataW.lit.injEq, Lit.int.injEq, true_and] at hz
 have h2 : cs.toList[i]? = some (.int .u16 z) := by
  have := congrArg (·[0]?) hcz
  simpa [List.getElem?_take, List.getElem?_drop] using this
 rw [World.var?_cell hg hvar i, ← Array.getElem?_toList, h2, List.getD_eq_getElem?_getD, List.getElem?_eq_getElem hl, Option.getD_some, hz.1]
theorem orb_of_reads {w : World} (h : VarReads Tryd.prog w "unicode.caseOrbit" Rows.laid_unicode_caseOrbit) : ∃ R o c, w.cell? ⟨2, 0, none⟩ = some (.slice (some ⟨R, o, none⟩) 94 c) ∧
  ∀ i, i < 94 → w.cell? ⟨R, o + i * 2, none⟩ = some (.int .u16 ((orbA.getD i (0, 0)).1 : Nat)) ∧ w.cell? ⟨R, o + i * 2 + 1, none⟩ = some (.int .u16 ((orbA.getD i (0, 0)).2 : Nat)) := by
 obtain ⟨g, t, cs, fuel, p, hg, hty, hvar, hd⟩ := h
 obtain rfl := Option.some.inj ((show Tryd.prog.globalNamed "unicode.caseOrbit" = some 2 by kernel_rfl).symm.trans hg)
 obtain rfl := Option.some.inj ((show (Tryd.prog.globals[2]?).map (·.type) = some 165 by kernel_rfl).symm.trans hty)
 rw [orb_data] at hd
 rcases DataW.trod_slice Tryd.underlying165 hd with ⟨_, hx'⟩ | ⟨a', len, cap, el, rs, m, rfl, hc0, hx', _, hlc, _, hel, helem, hsp, _⟩
 ·cases hx'
 have e0 := congrArg Prod.fst hx'
 simp only [DataW.slice.injEq] at e0
 obtain ⟨eE, eR⟩ := e0
 have hlen : len = 94 := by
  have := congrArg List.length eE
  have h94 : orbL.length = 94 := by kernel_rfl
  simp at this
  omega
 subst hlen
 have c2 : Tryd.prog.cellsOf 167 = 2 := by kernel_rfl
 have hrow : ∀ i, i < 94 → ∀ j, j < 2 → w.cell? ((a'.add (i * 2)).add j) = ([.int .u16 ((orbA.getD i (0, 0)).1 : Nat), .int .u16 ((orbA.getD i (0, 0)).2 : Nat)] : List Value)[j]? := by
  intro i hi j hj
  have h1 := helem i hi
  rw [c2] at h1
  obtain ⟨b, hb⟩ : ∃ b, el[i]? = some b := ⟨el[i]'(by omega), List.getElem?_eq_getElem (by omega)⟩
  rw [hb] at h1
  obtain ⟨ce, hce, hte⟩ := Option.bind_eq_some_iff.1 h1
  have hl : i < orbL.length := hi
  have hga : orbA.getD i (0, 0) = orbL[i] := by simp [orbA, Array.getD, hl]
  have hb1 : b.1 = .agg ([((orbA.getD i (0, 0)).1 : Int), ((orbA.getD i (0, 0)).2 : Int)].map fun z => .lit (.int .u16 z)) := by
   have := congrArg (·[i]?) eE
   simp only [List.getElem?_map, hb, Option.map_some] at this
   rw [List.getElem?_eq_getElem hl] at this
   simp only [Option.map_some, Option.some.injEq] at this
   rw [← this, hga]
  have hte' := hte
  rw [show b = (b.1, b.2) from rfl, hb1] at hte'
  have hcs := ints_of_struct (k := .u16) Tryd.underlying167 (fun i f hf => by
   match i, hf with
   | 0, hf => obtain rfl := Option.some.inj hf; exact ⟨Tryd.underlying163, rfl, by kernel_rfl⟩
   | 1, hf => obtain rfl := Option.some.inj hf; exact ⟨Tryd.underlying163, rfl, by kernel_rfl⟩
   | i + 2, hf => cases hf) (by kernel_rfl) hte'
  obtain ⟨_, _, hcc⟩ := World.cells?_some hce
  rw [hcc j hj, hcs]
  rfl
 obtain ⟨R, oR, sR⟩ := a'
 obtain rfl : sR = none := by
  have h00 := hrow 0 (by omega) 0 (by omega)
  have : (Addr.add (Addr.add ⟨R, oR, sR⟩ (0 * 2)) 0) = ⟨R, oR, sR⟩ := by simp [Addr.add]
  rw [this] at h00
  exact cell_spot h00
 refine ⟨R, oR, cap, ?_, fun i hi => ?_⟩
 ·rw [World.var?_cell hg hvar 0, ← Array.getElem?_toList, hc0]
  rfl
 ·have k0 := hrow i hi 0 (by omega)
  have k1 := hrow i hi 1 (by omega)
  rw [Addr.add_lit, Addr.add_lit] at k0 k1
  exact ⟨by simpa using k0, by simpa using k1⟩
theorem lt_of_cell' {w : World} {b o : Nat} {v : Value} (h : w.cell? ⟨b, o, none⟩ = some v) : b < w.heap.size := by
 rcases Nat.lt_or_ge b w.heap.size with h' | h'
 ·exact h'
 ·simp [World.cell?, Array.getElem?_eq_none h'] at h
def caseRen : Go.Shelf.Ren := ⟨Tryd.lays274_ren.f, Tryd.lays274_ren.t, fun _ => 3⟩
theorem caseLays : Go.Proofs.Lays.n274 Tryd.prog caseRen := { Tryd.lays274 with }
theorem caseX : CaseExtra Tryd.prog caseRen := ⟨by kernel_rfl, by kernel_rfl, by kernel_rfl, by kernel_rfl, by kernel_rfl, by kernel_rfl⟩
/-- All three tables. -/
theorem foldV_of_reads {w : World} (h1 : VarReads Tryd.prog w "unicode.asciiFold" Rows.laid_unicode_asciiFold) (h2 : VarReads Tryd.prog w "unicode.caseOrbit" Rows.laid_unicode_caseOrbit) (h3 : VarReads Tryd.prog w "unicode.CaseRanges" Rows.laid_unicode_CaseRanges) : FoldV w.heap.size w := by
 have ha := ascii_of_reads h1
 obtain ⟨R, o, c, ho, ht⟩ := orb_of_reads h2
 have h3' : VarReads Tryd.prog w "unicode.CaseRanges" caseData := by rw [← Pinned.caseRanges_eq]; exact h3
 obtain ⟨R2, o2, c2, ho2, ht2⟩ := caseVar_of_reads caseLays (by kernel_rfl) caseX h3'
 have hz : caseA.size = 336 := caseA_size
 rw [hz] at ho2
 have ho2 : w.cell? ⟨3, 0, none⟩ = some (.slice (some ⟨R2, o2, none⟩) 336 c2) := ho2
 exact ⟨ha, ⟨R, o, c, lt_of_cell' (ht 0 (by omega)).1, ho, ht⟩, ⟨R2, o2, c2, lt_of_cell' (ht2 0 (by rw [hz]; omega)).1, ho2, ht2⟩, lt_of_cell' (ha 0 (by omega)), lt_of_cell' ho, lt_of_cell' ho2⟩
end Go.Proofs.YtcncclglmgdinaaDoor.Fold
namespace Go.Proofs.YtcncclglmgdinaaDoor.Ps
open Go.RowKit Go.Lib Go.ChangeShapes Go.WideShapes
set_option linter.unusedVariables false
theorem msz_data : (Rows.laid_pub_searce_pub_regexp_matchSize : DataW Unit) = .agg (([128, 512, 2048, 16384, 0] : List Int).map fun z => .lit (.int .i64 z)) := by kernel_rfl
theorem msz_of_reads {w : World} (h : VarReads Tryd.prog w "pub-searce/pub/regexp.matchSize" Rows.laid_pub_searce_pub_regexp_matchSize) : MSz w := by
 obtain ⟨g, t, cs, fuel, p, hg, hty, hvar, hd⟩ := h
 obtain rfl := Option.some.inj ((show Tryd.prog.globalNamed "pub-searce/pub/regexp.matchSize" = some 0 by kernel_rfl).symm.trans hg)
 obtain rfl := Option.some.inj ((show (Tryd.prog.globals[0]?).map (·.type) = some 142 by kernel_rfl).symm.trans hty)
 rw [msz_data] at hd
 intro i hi
 obtain ⟨f', d, q, hd1, hd2⟩ := array_elem Tryd.underlying142 hd i hi
 have c1 : Tryd.prog.cellsOf 3 = 1 := by kernel_rfl
 have hl : i < ([128, 512, 2048, 16384, 0] : List Int).length := hi
 simp only [List.getElem?_map, List.getElem?_eq_getElem hl, Option.map_some, Option.some.injEq] at hd1
 subst hd1
 rw [c1] at hd2
 obtain ⟨z, hcz, hz, _⟩ := DataW.trod_int Tryd.underlying3 hd2
 simp only [Prod.mk.injEq, DataW.lit.injEq, Lit.int.injEq, true_and] at hz
 have h2 : cs.toList[i]? = some (.int .i64 z) := by
  have := congrArg (·[0]?) hcz
  simpa [List.getElem?_take, List.getElem?_drop] using this
 rw [World.var?_cell hg hvar i, ← Array.getElem?_toList, h2, List.getD_eq_getElem?_getD, List.getElem?_eq_getElem hl, Option.getD_some, hz.1]
end Go.Proofs.YtcncclglmgdinaaDoor.Ps
namespace Go.Proofs.YtcncclglmgdinaaDoor.Ps
open Go.RowKit Go.ChangeShapes Go.WideShapes Go.Proofs.YtcncclglmgdinaaDoor.PFnPgStep Go.Proofs.YtcncclglmgdinaaDoorW.PrintWords Go.Proofs.YtcncclglmgdinaaDoorW.PrintLast Go.Proofs.YtcncclglmgdinaaDoorW.PrintMore
set_option linter.unusedVariables false
section
variable {H : Type} {enc : TypeId × Value → H} {w : World} {base : Nat} {held : Bool}
theorem ints_kd3 {t e : TypeId} {k : IntKind} {v : Value} {fuel : Nat} {x : DataW H × List MemPlace} (ht : Tryd.prog.underlying t = some (.slice e)) (he : Tryd.prog.underlying e = some (.int k)) (hc : Tryd.prog.cellsOf e = 1)
  (h : DataW.trod enc Tryd.prog w base (fun _ => true) held fuel t [v] = some x) : ∃ A c, ∃ zs : List Int, v = .slice A zs.length c ∧ zs.length ≤ c ∧ (Kd.int k).C w A zs.length zs := by
 rcases open_ints ht he hc h with ⟨hcs, _⟩ | ⟨a, l, c', zs, hcs, _, hl, hm, hz, hx, hcell, hwz⟩
 ·simp at hcs
  exact ⟨none, 0, [], hcs, Nat.le_refl _, ⟨rfl, by simp, fun h => absurd h (by simp)⟩⟩
 ·simp at hcs
  subst hcs
  simp only [if_true] at hz
  have hlen : (zs.take l).length = l := by simp; omega
  refine ⟨some a, c', zs.take l, by rw [hlen], by omega, ⟨rfl, by rw [hlen]; unfold maxLen at hm; omega, fun _ => ⟨a, rfl, fun j p hj => ⟨[.int k p], rfl, rfl, fun i u hu => ?_⟩⟩⟩⟩
  have hi : i = 0 := by
   cases i with
   | zero => rfl
   | succ i => simp at hu
  subst hi
  simp at hu
  subst hu
  have hjl : j < l := by
   rcases Nat.lt_or_ge j l with h | h
   ·exact h
   ·rw [List.getElem?_eq_none (by omega)] at hj; cases hj
  have hsz : (Kd.int k).sz = 1 := rfl
  rw [hsz, Nat.mul_one, Nat.add_zero, hcell j (by omega)]
  rw [List.getElem?_take, if_pos hjl] at hj
  rw [List.getD_eq_getElem?_getD, hj]
  rfl
theorem list_of2 {α : Type} {P : Nat → α → Prop} : ∀ n : Nat, (∀ i, i < n → ∃ t, P i t) → ∃ ts : List α, ts.length = n ∧ ∀ (j : Nat) (p : α), ts[j]? = some p → P j p
 | 0, _ => ⟨[], rfl, fun j p hj => by simp at hj⟩
 | n + 1, h => by
  obtain ⟨ts, hl, ht⟩ := list_of2 n fun i hi => h i (by omega)
  obtain ⟨t, hp⟩ := h n (by omega)
  refine ⟨ts ++ [t], by simp [hl], fun j p hj => ?_⟩
  rcases Nat.lt_or_ge j n with hlt | hge
  ·rw [List.getElem?_append_left (by omega)] at hj
   exact ht j p hj
  ·rw [List.getElem?_append_right (by omega)] at hj
   have : j = n := by
    rcases Nat.lt_or_ge (j - ts.length) 1 with h | h
    ·omega
    ·rw [List.getElem?_eq_none (by simpa using h)] at hj; cases hj
   subst this
   rw [hl, Nat.sub_self] at hj
   simp at hj
   subst hj
   exact hp
set_option maxRecDepth 100000 in
theorem inst_open {fuel : Nat} {cs : List Value} {x : DataW H × List MemPlace} (h : DataW.trod enc Tryd.prog w base (fun _ => true) held fuel 55 cs = some x) : ∃ t : In, k55.K w t cs := by
 obtain ⟨xs, n, hn, hxx, hl, hxl, hf⟩ := DataW.trod_struct Tryd.underlying55 h
 have hl4 : cs.length = 4 := hl.trans (by kernel_rfl)
 match cs, hl4 with
 | [v0, v1, v2, v3], _ =>
  have c1 : Tryd.prog.cellsOf 3 = 1 := by kernel_rfl
  have c2 : Tryd.prog.cellsOf 53 = 1 := by kernel_rfl
  have f0 := hf 0 _ rfl
  have f1 := hf 1 _ rfl
  have f2 := hf 2 _ rfl
  have f3 := hf 3 _ rfl
  have hx : ∀ i, i < 4 → ∃ y, xs[i]? = some y := fun i hi => ⟨_, List.getElem?_eq_getElem (by rw [hxl]; exact hi)⟩
  obtain ⟨y0, e0⟩ := hx 0 (by omega)
  obtain ⟨y1, e1⟩ := hx 1 (by omega)
  obtain ⟨y2, e2⟩ := hx 2 (by omega)
  obtain ⟨y3, e3⟩ := hx 3 (by omega)
  rw [e0] at f0; rw [e1] at f1; rw [e2] at f2; rw [e3] at f3
  simp [c1] at f0 f1 f2
  simp [c2] at f3
  obtain ⟨op, h0, _, _⟩ := DataW.trod_int Tryd.underlying3 f0
  obtain ⟨f1', h1, _, _⟩ := DataW.trod_int Tryd.underlying3 f1
  obtain ⟨f2', h2, _, _⟩ := DataW.trod_int Tryd.underlying3 f2
  simp at h0 h1 h2
  subst h0 h1 h2
  obtain ⟨A, c, rs, rfl, hrc, hr⟩ := ints_kd3 Tryd.underlying53 Tryd.underlying21 (by kernel_rfl) f3
  exact ⟨⟨op, f1', f2', rs⟩, k55_mk w ⟨op, f1', f2', rs⟩ hrc hr⟩
set_option maxRecDepth 100000 in
theorem insts_open {fuel : Nat} {v : Value} {x : DataW H × List MemPlace} (h : DataW.trod enc Tryd.prog w base (fun _ => true) held fuel 22 [v] = some x) : ∃ A c, ∃ L : List In, v = .slice A L.length c ∧ L.length ≤ c ∧ k55.C w A L.length L := by
 rcases DataW.trod_slice Tryd.underlying22 h with ⟨hcs, _⟩ | ⟨a, len, cap, el, rest, m, hfu, hcs, hx7, _, hlc, hcm, hel, helem, _, _⟩
 ·simp at hcs
  exact ⟨none, 0, [], hcs, Nat.le_refl _, ⟨rfl, by simp, fun h => absurd h (by simp)⟩⟩
 ·simp at hcs
  subst hcs
  have c4 : Tryd.prog.cellsOf 55 = 4 := by kernel_rfl
  have hall : ∀ i, i < len → ∃ (t : In), ∃ (ce : List Value), ce.length = 4 ∧ k55.K w t ce ∧ ∀ j u, ce[j]? = some u → w.cell? (a.add (i * 4 + j)) = some u := by
   intro i hi
   have h1 := helem i hi
   rw [c4] at h1
   obtain ⟨b, hb⟩ : ∃ b, el[i]? = some b := ⟨_, List.getElem?_eq_getElem (by omega)⟩
   rw [hb] at h1
   obtain ⟨ce, hce, hte⟩ := Option.bind_eq_some_iff.1 h1
   obtain ⟨_, hcl, hcc⟩ := World.cells?_some hce
   obtain ⟨t, ht⟩ := inst_open hte
   refine ⟨t, ce, hcl, ht, fun j u hj => ?_⟩
   have hj4 : j < 4 := by
    rcases Nat.lt_or_ge j 4 with h | h
    ·exact h
    ·rw [List.getElem?_eq_none (by omega)] at hj; cases hj
   rw [← hj, ← hcc j hj4, Go.Deep.add_add]
  obtain ⟨ts, hl, hts⟩ := list_of2 len hall
  exact ⟨some a, cap, ts, by rw [hl], by omega, ⟨rfl, by rw [hl]; unfold maxLen at hcm; omega, fun _ => ⟨a, rfl, fun j p hj => hts j p hj⟩⟩⟩
set_option maxRecDepth 100000 in
theorem prog_open {fuel : Nat} {cs : List Value} {x : DataW H × List MemPlace} (h : DataW.trod enc Tryd.prog w base (fun _ => true) held fuel 24 cs = some x) : ∃ A c, ∃ (L : List In) (st ncap : Int), cs = [.slice A L.length c, .int .i64 st, .int .i64 ncap] ∧ L.length ≤ c ∧ k55.C w A L.length L := by
 obtain ⟨xs, n, hn, hxx, hl, hxl, hf⟩ := DataW.trod_struct Tryd.underlying24 h
 have hl3 : cs.length = 3 := hl.trans (by kernel_rfl)
 match cs, hl3 with
 | [v0, v1, v2], _ =>
  have c1 : Tryd.prog.cellsOf 3 = 1 := by kernel_rfl
  have c2 : Tryd.prog.cellsOf 22 = 1 := by kernel_rfl
  have f0 := hf 0 _ rfl
  have f1 := hf 1 _ rfl
  have f2 := hf 2 _ rfl
  have hx : ∀ i, i < 3 → ∃ y, xs[i]? = some y := fun i hi => ⟨_, List.getElem?_eq_getElem (by rw [hxl]; exact hi)⟩
  obtain ⟨y0, e0⟩ := hx 0 (by omega)
  obtain ⟨y1, e1⟩ := hx 1 (by omega)
  obtain ⟨y2, e2⟩ := hx 2 (by omega)
  rw [e0] at f0; rw [e1] at f1; rw [e2] at f2
  simp [c1] at f1 f2
  simp [c2] at f0
  obtain ⟨st, h1, _, _⟩ := DataW.trod_int Tryd.underlying3 f1
  obtain ⟨nc, h2, _, _⟩ := DataW.trod_int Tryd.underlying3 f2
  simp at h1 h2
  subst h1 h2
  obtain ⟨A, c, L, rfl, hc, hr⟩ := insts_open f0
  exact ⟨A, c, L, st, nc, rfl, hc, hr⟩
end
end Go.Proofs.YtcncclglmgdinaaDoor.Ps
