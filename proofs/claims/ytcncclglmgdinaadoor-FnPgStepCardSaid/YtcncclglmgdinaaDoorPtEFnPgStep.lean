/- What a queue of the threads' machine holds: the walk of 'zzQueue'. A machine is made ready: the walks of 'init' and of what makes it. A Regexp is made for a program: the walk of 'ZZOf'. A machine is made for a Regexp: the walk of 'get'. -/
import Derived.Test.YtcncclglmgdinaaDoorPtVFnPgStep
namespace Go.Proofs.YtcncclglmgdinaaDoor.Ps
open Go.RowKit Mem Go.Proofs.YtcncclglmgdinaaDoor.PFnPgStep Go.Proofs.YtcncclglmgdinaaDoorW.PrintWords Go.Proofs.YtcncclglmgdinaaDoorW.PrintLast Go.Proofs.YtcncclglmgdinaaDoorW.PrintMore
set_option linter.unusedVariables false
def u32C (l : List Nat) : List Value := l.map fun (x : Nat) => Value.int .u32 (x : Int)
theorem u32C_snoc {l : List Nat} {j : Nat} (h : j < l.length) : u32C (l.take (j + 1)) = u32C (l.take j) ++ [Value.int .u32 (l.getD j 0 : Nat)] := by
 rw [List.take_add_one, u32C, u32C, List.map_append]
 simp [List.getD_eq_getElem?_getD, h]
theorem info_u32 : (Tryd.prog.info? 75).map (fun i => (i.zero, i.size, i.bytes)) = some (some (.int .u32 0), 1, 4) := by kernel_rfl
theorem keep_own {w : World} {base base' : Nat} {e t : TypeId} {v v' : Value} {n n' : Nat} {xs xs' : List Value} (h : w.ownsRow base e 1 v n xs) (h' : w.ownsRow base' t 1 v' n' xs') (ht : t ≠ e) : v'.ownBlock = none ∨ v'.ownBlock ≠ v.ownBlock := by
 cases hv : v'.ownBlock with
 | none => exact Or.inl rfl
 | some k => exact Or.inr fun e => Mem.own_apart2 h h' ht k hv e.symm
section
variable (F : Fix)
set_option maxRecDepth 100000 in
set_option maxHeartbeats 8000000 in
theorem zzq_c (w : World) (cs : Array Value) (pv : Value) (l : List Nat) (ths : List Value) (P : List Nat) (h : MS F.w0 w F.B F.bM F.bP F.qo F.n F.s F.d F.cm cs pv l ths P) (he : ∀ j, j < l.length → EntOk F.L F.B F.g w (l.getD j 0) (ths.getD j (.pointer none))) (hl : l.length ≤ 1000000) :
  Calls Tryd.prog 42 #[.pointer (some ⟨F.bM, F.qo, none⟩)] w fun e w' => ∃ v1 v2, e = .returned (.tuple #[v1, v2]) ∧ w'.ownsRow w.heap.size 75 1 v1 l.length (u32C l) ∧ w'.ownsRow w.heap.size 4 1 v2 l.length (waitC F.L l) ∧ Below w.heap.size w w' := by
 have kd := cell_at h.blk h.fd
 have HE := Lib.hid he
 obtain ⟨E, d0, d1, d2⟩ := h.q.de
 have HD : Hid (∀ j, j < l.length → w.cell? ⟨F.d, j * 2, none⟩ = some (.int .u32 (l.getD j 0 : Nat)) ∧ w.cell? ⟨F.d, j * 2 + 1, none⟩ = some (ths.getD j (.pointer none))) := Lib.hid fun j hj => ⟨cell_at d0 (d2 j hj).1, cell_at d0 (d2 j hj).2⟩
 clear h he d0 d1 d2
 go_enter Tryd.func42, Tryd.ntmps42
 go_wp2_with fail
 clear kd
 go_loopg [11, 2, 3] (l.length + 1) (fun gg s11 s2 s3 wx => ∃ (j : Nat), s11 = .int .i64 j ∧ j ≤ l.length ∧ l.length - j < gg ∧ Hid (wx.ownsRow w.heap.size 75 1 s2 j (u32C (l.take j))) ∧ Hid (wx.ownsRow w.heap.size 4 1 s3 j (waitC F.L (l.take j))) ∧ Hid (Below w.heap.size w wx))
 case atStart => exact ⟨0, rfl, by omega, by omega, Lib.hid (World.ownsRow_nil _ _ _ _), Lib.hid (World.ownsRow_nil _ _ _ _), Lib.hid (Below.refl _ _)⟩
 case round =>
  obtain ⟨j, rfl, hj, hgj, HU, HW, HB1⟩ := hrel
  obtain ⟨g', rfl⟩ : ∃ g', gk = g' + 1 := ⟨gk - 1, by omega⟩
  have hws : w.heap.size ≤ wr.heap.size := HB1.out.size
  by_cases hlt : j < l.length
  ·have hb0 : decide ((j : Int) < (l.length : Int)) = true := decide_eq_true (by omega)
   obtain ⟨x0, x1⟩ := HD.out j hlt
   have hent := HE.out j hlt
   replace x0 := low HB1.out x0
   replace x1 := low HB1.out x1
   have HSU := Lib.hid (u32C_snoc hlt)
   have HSW := Lib.hid (waitC_snoc F.L hlt)
   generalize l.getD j 0 = x at *
   unfold EntOk at hent
   cases hwv : waitB (inAt F.L x) with
   | true =>
    rw [if_pos hwv] at hent
    obtain ⟨b, htv, _, _⟩ := hent
    rw [htv] at x1
    clear htv
    go_upto_region 4 with fail
    have hnew := Mem.blk_new wr (.cells #[.int .u32 (x : Nat), (Value.pointer (some ⟨b, 0, none⟩))] 135)
    have HB3 := Lib.hid (HB1.out.alloc hws (.cells #[.int .u32 (x : Nat), (Value.pointer (some ⟨b, 0, none⟩))] 135))
    have HU3 := Lib.hid (HU.out.alloc (.cells #[.int .u32 (x : Nat), (Value.pointer (some ⟨b, 0, none⟩))] 135))
    have HW3 := Lib.hid (HW.out.alloc (.cells #[.int .u32 (x : Nat), (Value.pointer (some ⟨b, 0, none⟩))] 135))
    clear x0 x1
    generalize wr.alloc (.cells #[.int .u32 (x : Nat), (Value.pointer (some ⟨b, 0, none⟩))] 135) = w3 at *
    generalize wr.heap.size = T at *
    have HN := Lib.hid hnew; clear hnew
    have n0 : w3.cell? ⟨T, 0, none⟩ = some (.int .u32 (x : Nat)) := cell_at HN.out rfl
    have hws3 := HB3.out.size
    obtain ⟨Au, cu, hu⟩ := own_slice HU3.out
    subst hu
    obtain ⟨Aw, cw, hw⟩ := own_slice HW3.out
    subst hw
    go_upto_region 5 with (at_builtin; refine Mem.wp_app1 rfl _ _ _ rfl w.heap.size 75 (.int .u32 0) 4 Tryd.underlying45 info_u32 rfl _ j (u32C (l.take j)) rfl HU3.out (.int .u32 (x : Nat)) rfl rfl (by unfold maxLen; omega) (by omega) hws3 ?_; intro v6 w6 ho6 hg6 hb6; obtain ⟨A6, c6, hv6⟩ := own_slice ho6; subst hv6; have HO6 := Lib.hid ho6; have HB6 := Lib.hid (HB3.out.trans hb6); have HN6 := Lib.hid (Mem.blk_grown (Mem.blk_old HN.out _) hg6 (Mem.own_apart (HU3.out.alloc (.cells #[.int .u32 (x : Nat)] 75)) (Mem.blk_old HN.out _) (by decide))); have HW6 := Lib.hid ((HW3.out.alloc (.cells #[.int .u32 (x : Nat)] 75)).kept hg6 (by exact keep_own (HU3.out.alloc (.cells #[.int .u32 (x : Nat)] 75)) (HW3.out.alloc (.cells #[.int .u32 (x : Nat)] 75)) (by decide))); have n1 : w6.cell? ⟨T, 1, none⟩ = some (Value.pointer (some ⟨b, 0, none⟩)) := cell_at HN6.out rfl; have hws6 := HB6.out.size; clear ho6 hg6 hb6 n0)
    go_wp2_with (at_builtin; refine Mem.wp_app1 rfl _ _ _ rfl w.heap.size 4 (.bool false) 1 Tryd.underlying28 info_bool rfl _ j (waitC F.L (l.take j)) rfl HW6.out (.bool true) rfl rfl (by unfold maxLen; omega) (by omega) hws6 ?_; intro v7 w7 ho7 hg7 hb7; have HO7 := Lib.hid ho7; have HB7 := Lib.hid (HB6.out.trans hb7); have HU7 := Lib.hid ((HO6.out.alloc (.cells #[.bool true] 4)).kept hg7 (by exact keep_own (HW6.out.alloc (.cells #[.bool true] 4)) (HO6.out.alloc (.cells #[.bool true] 4)) (by decide))); clear ho7 hg7 hb7)
    go_roundg g'
    case rel => exact ⟨j + 1, by go_num, by omega, by omega, Lib.hid (by rw [HSU.out]; exact HU7.out), Lib.hid (by rw [HSW.out, hwv]; exact HO7.out), HB7⟩
    case measure => omega
   | false =>
    rw [if_neg (by rw [hwv]; decide)] at hent
    rw [hent] at x1
    clear hent
    go_upto_region 4 with fail
    have hnew := Mem.blk_new wr (.cells #[.int .u32 (x : Nat), (Value.pointer none)] 135)
    have HB3 := Lib.hid (HB1.out.alloc hws (.cells #[.int .u32 (x : Nat), (Value.pointer none)] 135))
    have HU3 := Lib.hid (HU.out.alloc (.cells #[.int .u32 (x : Nat), (Value.pointer none)] 135))
    have HW3 := Lib.hid (HW.out.alloc (.cells #[.int .u32 (x : Nat), (Value.pointer none)] 135))
    clear x0 x1
    generalize wr.alloc (.cells #[.int .u32 (x : Nat), (Value.pointer none)] 135) = w3 at *
    generalize wr.heap.size = T at *
    have HN := Lib.hid hnew; clear hnew
    have n0 : w3.cell? ⟨T, 0, none⟩ = some (.int .u32 (x : Nat)) := cell_at HN.out rfl
    have hws3 := HB3.out.size
    obtain ⟨Au, cu, hu⟩ := own_slice HU3.out
    subst hu
    obtain ⟨Aw, cw, hw⟩ := own_slice HW3.out
    subst hw
    go_upto_region 5 with (at_builtin; refine Mem.wp_app1 rfl _ _ _ rfl w.heap.size 75 (.int .u32 0) 4 Tryd.underlying45 info_u32 rfl _ j (u32C (l.take j)) rfl HU3.out (.int .u32 (x : Nat)) rfl rfl (by unfold maxLen; omega) (by omega) hws3 ?_; intro v6 w6 ho6 hg6 hb6; obtain ⟨A6, c6, hv6⟩ := own_slice ho6; subst hv6; have HO6 := Lib.hid ho6; have HB6 := Lib.hid (HB3.out.trans hb6); have HN6 := Lib.hid (Mem.blk_grown (Mem.blk_old HN.out _) hg6 (Mem.own_apart (HU3.out.alloc (.cells #[.int .u32 (x : Nat)] 75)) (Mem.blk_old HN.out _) (by decide))); have HW6 := Lib.hid ((HW3.out.alloc (.cells #[.int .u32 (x : Nat)] 75)).kept hg6 (by exact keep_own (HU3.out.alloc (.cells #[.int .u32 (x : Nat)] 75)) (HW3.out.alloc (.cells #[.int .u32 (x : Nat)] 75)) (by decide))); have n1 : w6.cell? ⟨T, 1, none⟩ = some (Value.pointer none) := cell_at HN6.out rfl; have hws6 := HB6.out.size; clear ho6 hg6 hb6 n0)
    go_wp2_with (at_builtin; refine Mem.wp_app1 rfl _ _ _ rfl w.heap.size 4 (.bool false) 1 Tryd.underlying28 info_bool rfl _ j (waitC F.L (l.take j)) rfl HW6.out (.bool false) rfl rfl (by unfold maxLen; omega) (by omega) hws6 ?_; intro v7 w7 ho7 hg7 hb7; have HO7 := Lib.hid ho7; have HB7 := Lib.hid (HB6.out.trans hb7); have HU7 := Lib.hid ((HO6.out.alloc (.cells #[.bool false] 4)).kept hg7 (by exact keep_own (HW6.out.alloc (.cells #[.bool false] 4)) (HO6.out.alloc (.cells #[.bool false] 4)) (by decide))); clear ho7 hg7 hb7)
    go_roundg g'
    case rel => exact ⟨j + 1, by go_num, by omega, by omega, Lib.hid (by rw [HSU.out]; exact HU7.out), Lib.hid (by rw [HSW.out, hwv]; exact HO7.out), HB7⟩
    case measure => omega
  ·have hb0 : decide ((j : Int) < (l.length : Int)) = false := decide_eq_false (by omega)
   obtain rfl : j = l.length := by omega
   rw [List.take_length] at HU HW
   go_wp2_with fail
   go_ret2
   exact ⟨_, _, rfl, HU.out, HW.out, HB1.out⟩
end
end Go.Proofs.YtcncclglmgdinaaDoor.Ps
namespace Go.Proofs.YtcncclglmgdinaaDoor.Ps
open Go.RowKit Mem Go.Proofs.YtcncclglmgdinaaDoor.PFnPgStep Go.Proofs.YtcncclglmgdinaaDoorW.PrintWords Go.Proofs.YtcncclglmgdinaaDoorW.PrintLast Go.Proofs.YtcncclglmgdinaaDoorW.PrintMore
set_option linter.unusedVariables false
set_option maxRecDepth 100000 in
set_option maxHeartbeats 4000000 in
theorem init_c (w : World) (bM g n cm : Nat) (cs : Array Value) (h : w.heap[bM]? = some (.cells cs 94 (0, 0))) (h6 : cs[6]? = some (.slice none 0 0)) (h8 : cs[8]? = some (.slice (some ⟨g, 0, none⟩) n cm)) :
  Calls Tryd.prog 59 #[.pointer (some ⟨bM, 0, none⟩), .int .i64 0] w fun e w' => e = .returned (.tuple #[]) ∧ w' = w.setCell ⟨bM, 8, none⟩ (.slice (some ⟨g, 0, none⟩) 0 cm) := by
 have k6 := cell_at h h6
 have k8 := cell_at h h8
 have z8 := fz_at h 8
 clear h h6 h8
 go_enter Tryd.func59, Tryd.ntmps59
 go_wp2_with fail
 go_loopg [11] 1 (fun gg s11 wx => s11 = .int .i64 0 ∧ wx = w)
 case atStart => exact ⟨rfl, rfl⟩
 case round =>
  obtain ⟨rfl, rfl⟩ := hrel
  go_wp2_with fail
  go_end0
  exact ⟨rfl, rfl⟩
theorem mk_zero {e T : TypeId} {z : Value} {size bytes : Nat} (ht : Tryd.prog.underlying T = some (.slice e)) (hi : (Tryd.prog.info? e).map (fun i => (i.zero, i.size, i.bytes)) = some (some z, size, bytes)) (n c : Nat) (hn : n ≤ c) (hc : c ≤ 1000000) (hb : bytes ≤ 1000) (hs : size ≤ 1000) :
  ∀ w : World, (Instr.makeSlice T (.int .i64 n) (.int .i64 c)).run Tryd.prog w = .ok (.slice (some ⟨w.heap.size, 0, none⟩) n c) (w.alloc (.cells (madeCells z.cells (c * size)) e)) := by
 obtain ⟨i0, hi0, hz0, hz1, hz2⟩ := info_parts hi
 intro w
 have h1 : bytes * c ≤ 1000 * 1000000 := Nat.mul_le_mul hb hc
 have h2 : c * bytes ≤ 1000 * 1000000 := by rw [Nat.mul_comm]; exact h1
 have h := run_make w T e i0 _ ht hi0 hz0 .i64 .i64 n c (by omega) (by omega) (by rw [hz2]; omega) (by omega)
 rw [hz1] at h
 simpa using h
theorem dep_le (L : List In) : ∀ (n pc : Nat), dep L n pc ≤ n
 | 0, _ => Nat.le_refl _
 | n + 1, pc => by
  simp only [dep]
  split
  ·omega
  ·have := dep_le L n (inAt L pc).f1.toNat
   omega
section
variable (L : List In) (w0 : World) (bP start : Nat) (ncap : Int) (g cI : Nat) (R : List Value)
set_option maxRecDepth 100000 in
set_option maxHeartbeats 8000000 in
/-- The package's program's head tells some condition. -/
theorem startCond_c (w : World) (S : SQ L ncap start) (h : PF w0 w bP start ncap (.slice (some ⟨g, 0, none⟩) (L.map cvt).length cI) R (L.map cvt)) :
  Calls Tryd.prog 64 #[.pointer (some ⟨bP, 0, none⟩)] w fun e w' => ∃ z, e = .returned (.int .u8 z) ∧ w' = w := by
 have HS := Lib.hid S; have HP := Lib.hid h
 have p0 : w.cell? ⟨bP, 0, none⟩ = some (.slice (some ⟨g, 0, none⟩) L.length cI) := by
  have := cell_at h.blk (i := 0) rfl
  rw [List.length_map] at this
  exact this
 have p1 : w.cell? ⟨bP, 1, none⟩ = some (.int .i64 start) := cell_at h.blk (i := 1) rfl
 have hst := S.lt
 have hL := S.len
 have hw : IntKind.u32.wrap (start : Int) = (start : Int) := by rw [IntKind.wrap_u32]; omega
 clear S h
 go_enter Tryd.func64, Tryd.ntmps64
 go_wp2_with fail
 go_step3
 go_wp2_with fail
 go_step3
 go_wp2_with fail
 clear p1
 go_loopg [3, 4, 5] (L.length + 1) (fun gg s3 s4 s5 wx => ∃ (z : Int) (q : Nat), s3 = .int .u8 z ∧ s5 = .pointer (some ⟨g, q * 4, none⟩) ∧ q < L.length ∧ dep L L.length q < gg ∧ wx = w)
 case atStart => exact ⟨0, start, rfl, rfl, hst, by have := dep_le L L.length start; omega, rfl⟩
 case round =>
  obtain ⟨z, q, rfl, rfl, hq, hdq, rfl⟩ := hrel
  obtain ⟨g', rfl⟩ : ∃ g', gk = g' + 1 := ⟨gk - 1, by omega⟩
  obtain ⟨e0, e1, e2, _⟩ := HP.out.cells4 rfl (pc := q) (by rw [List.length_map]; exact hq)
  rw [at_cvt hq] at e0 e1 e2
  rw [cvt0] at e0
  have hdo := fun hs ho => dep_out HS.out.circ hq hs ho
  have hio := HS.out.out q hq
  have hc1 := fun h => cvt1 (I := inAt L q) h
  unfold stopB at hdo
  generalize inAt L q = I at *
  obtain ⟨op, f1, f2, rs⟩ := I
  simp only at e0 hio hdo hc1
  by_cases h326 : op = 3 ∨ op = 2 ∨ op = 6
  ·obtain ⟨c1, c2, _⟩ := hc1 ⟨by omega, by omega⟩
   rw [c1] at e1
   obtain ⟨o1, rfl⟩ : ∃ o1 : Nat, f1 = o1 := ⟨f1.toNat, by omega⟩
   have ho1 : o1 < L.length := by omega
   rw [Int.toNat_natCast] at hdo
   have hd2 := hdo (by omega) ho1
   clear hdo hio hc1 c1
   generalize (cvt ⟨op, (o1 : Int), f2, rs⟩).f2 = a2 at *
   rcases h326 with rfl | rfl | rfl
   ·go_wp2_with fail
    go_roundg g'
    case rel => exact ⟨_, o1, rfl, rfl, ho1, by omega, rfl⟩
    case measure => omega
   ·go_wp2_with fail
    go_roundg g'
    case rel => exact ⟨_, o1, rfl, rfl, ho1, by omega, rfl⟩
    case measure => omega
   ·go_wp2_with fail
    go_roundg g'
    case rel => exact ⟨_, o1, rfl, rfl, ho1, by omega, rfl⟩
    case measure => omega
  ·by_cases h5 : op = 5
   ·subst h5
    clear hdo hio hc1 e1 e2
    go_wp2_with fail
    (try rw [Exit.noGoto_ret])
    go_ret
    exact ⟨_, rfl, rfl⟩
   ·have b3 : (op == 3) = false := by rw [beq_eq_false_iff_ne]; omega
    have b5 : (op == 5) = false := by rw [beq_eq_false_iff_ne]; omega
    have b2 : (op == 2) = false := by rw [beq_eq_false_iff_ne]; omega
    have b6 : (op == 6) = false := by rw [beq_eq_false_iff_ne]; omega
    clear hdo hio hc1 e1 e2 h326 h5
    go_wp2_with fail
    (try rw [Exit.noGoto_ret])
    go_ret
    exact ⟨_, rfl, rfl⟩
set_option maxRecDepth 100000 in
set_option maxHeartbeats 4000000 in
theorem should_c (w : World) (h : PF w0 w bP start ncap (.slice (some ⟨g, 0, none⟩) (L.map cvt).length cI) R (L.map cvt)) :
  Calls Tryd.prog 65 #[.pointer (some ⟨bP, 0, none⟩)] w fun e w' => e = .returned (.bool (decide (L.length ≤ 500))) ∧ w' = w := by
 have p0 : w.cell? ⟨bP, 0, none⟩ = some (.slice (some ⟨g, 0, none⟩) L.length cI) := by
  have := cell_at h.blk (i := 0) rfl
  rw [List.length_map] at this
  exact this
 have e : decide (L.length ≤ 500) = decide ((L.length : Int) ≤ 500) := decide_eq_decide.2 (by omega)
 rw [e]
 clear h e
 go_enter Tryd.func65, Tryd.ntmps65
 go_wp2_with fail
 go_ret
 exact ⟨by first | rfl | simp, rfl⟩
set_option maxRecDepth 100000 in
set_option maxHeartbeats 4000000 in
theorem maxBit_c (w : World) (hL : 0 < L.length) (h : PF w0 w bP start ncap (.slice (some ⟨g, 0, none⟩) (L.map cvt).length cI) R (L.map cvt)) :
  Calls Tryd.prog 48 #[.pointer (some ⟨bP, 0, none⟩)] w fun e w' => e = .returned (.int .i64 (if L.length ≤ 500 then ((262144 / L.length : Nat) : Int) else 0)) ∧ w' = w := by
 have p0 : w.cell? ⟨bP, 0, none⟩ = some (.slice (some ⟨g, 0, none⟩) L.length cI) := by
  have := cell_at h.blk (i := 0) rfl
  rw [List.length_map] at this
  exact this
 have CS := Lib.hid (should_c L w0 bP start ncap g cI R w h)
 have hne : ((L.length : Int) == 0) = false := by rw [beq_eq_false_iff_ne]; omega
 have hdv : Int.tdiv 262144 (L.length : Int) = ((262144 / L.length : Nat) : Int) := by
  rw [show (262144 : Int) = ((262144 : Nat) : Int) by rfl, ← Int.ofNat_tdiv]
 clear h
 by_cases h5 : L.length ≤ 500
 ·rw [if_pos h5]
  have HD : Hid (decide (L.length ≤ 500) = true) := Lib.hid (decide_eq_true h5)
  have hle : 262144 / L.length ≤ 262144 := Nat.div_le_self _ _
  generalize 262144 / L.length = q at *
  go_enter Tryd.func48, Tryd.ntmps48
  go_wp2_with (go_at_call 65; refine (Calls.mono CS.out ?_); rintro e w1 ⟨rfl, rfl⟩; rw [HD.out])
  go_ret
  exact ⟨by first | rfl | simp [hdv], rfl⟩
 ·rw [if_neg h5]
  have HD : Hid (decide (L.length ≤ 500) = false) := Lib.hid (decide_eq_false h5)
  go_enter Tryd.func48, Tryd.ntmps48
  go_wp2_with (go_at_call 65; refine (Calls.mono CS.out ?_); rintro e w1 ⟨rfl, rfl⟩; rw [HD.out])
  go_ret
  exact ⟨rfl, rfl⟩
end
end Go.Proofs.YtcncclglmgdinaaDoor.Ps
namespace Go.Proofs.YtcncclglmgdinaaDoor.Ps
open Go.RowKit Mem Go.Proofs.YtcncclglmgdinaaDoor.PFnPgStep Go.Proofs.YtcncclglmgdinaaDoorW.PrintWords Go.Proofs.YtcncclglmgdinaaDoorW.PrintLast Go.Proofs.YtcncclglmgdinaaDoorW.PrintMore
set_option linter.unusedVariables false
/-- The sizes of the package's queues. -/
def MSz (w : World) : Prop := ∀ i, i < 5 → w.cell? ⟨0, i, none⟩ = some (.int .i64 (([128, 512, 2048, 16384, 0] : List Int).getD i 0))
def mszN (i : Nat) : Nat := ([128, 512, 2048, 16384, 0] : List Nat).getD i 0
/-- A Regexp's cells. -/
def regC (bP : Nat) (x3 x4 : Value) (An : Option Addr) (cn : Nat) (mp : Nat) (mc : Int) (z : Int) (b : Bool) : Array Value :=
 #[.string ⟨#[]⟩, .pointer (some ⟨bP, 0, none⟩), .pointer none, x3, x4, .slice An 1 cn, .string ⟨#[]⟩, .slice none 0 0, .int .i32 0, .int .u32 0, .int .i64 mp, .int .i64 mc, .bool false, .int .u8 z, .int .i64 0, .bool b]
section
variable (L : List In) (w0 : World) (bP start : Nat) (ncap : Int) (g cI : Nat) (R : List Value)
set_option maxRecDepth 100000 in
set_option maxHeartbeats 8000000 in
theorem zzOf_c (w : World) (S : SQ L ncap start) (h : PF w0 w bP start ncap (.slice (some ⟨g, 0, none⟩) (L.map cvt).length cI) R (L.map cvt)) (hm : MSz w) (hG : 0 < w.heap.size) (An : Option Addr) (cn : Nat) (b : Bool) :
  Calls Tryd.prog 47 #[.pointer (some ⟨bP, 0, none⟩), .slice An 1 cn, .bool b] w fun e w' => ∃ (bR mp : Nat) (cr : Array Value), e = .returned (.pointer (some ⟨bR, 0, none⟩)) ∧ w'.heap[bR]? = some (.cells cr 132 (0, 0)) ∧ cr[1]? = some (.pointer (some ⟨bP, 0, none⟩)) ∧
   cr[10]? = some (.int .i64 mp) ∧ cr[11]? = some (.int .i64 ncap) ∧ cr[15]? = some (.bool b) ∧ mp ≤ 2 ∧ L.length ≤ mszN mp ∧ w.heap.size ≤ bR ∧ Below w.heap.size w w' := by
 have CSt := Lib.hid (fun (W : World) (hb : Below w.heap.size w W) => startCond_c L w0 bP start ncap g cI R W S (h.below hb))
 have CMx := Lib.hid (fun (W : World) (hb : Below w.heap.size w W) => maxBit_c L w0 bP start ncap g cI R W S.pos (h.below hb))
 have HD := Lib.hid ((Below.refl w.heap.size w).drew)
 have p0 : w.cell? ⟨bP, 0, none⟩ = some (.slice (some ⟨g, 0, none⟩) L.length cI) := by
  have := cell_at h.blk (i := 0) rfl
  rw [List.length_map] at this
  exact this
 have p2 : w.cell? ⟨bP, 2, none⟩ = some (.int .i64 ncap) := cell_at h.blk (i := 2) rfl
 have HM := Lib.hid hm
 have hn0 := S.n0
 have hn1 := S.n1
 have hL := S.len
 have HPB := Lib.hid h.blk
 clear S h hm
 generalize (if L.length ≤ 500 then ((262144 / L.length : Nat) : Int) else 0) = zb at *
 go_enter Tryd.func47, Tryd.ntmps47
 go_upto_region 1 with fail
 go_cut [7] (fun s7 wx => ∃ (x3 x4 : Value) (z : Int), s7 = .pointer (some ⟨w.heap.size, 0, none⟩) ∧ Hid (wx.heap[w.heap.size]? = some (.cells (regC bP x3 x4 An cn 0 ncap z b) 132 (0, 0))) ∧ Hid (Below w.heap.size w wx))
 case first =>
  have hmx : max ncap 2 = ncap := by omega
  go_region_held3 (fun w' => w'.cell? ⟨bP, 2, none⟩ = some (.int .i64 ncap)) (go_keep) ((first
   | (go_at_call 64; refine (Calls.mono (CSt.out _ HD.out) ?_); rintro e w1 ⟨z, rfl, rfl⟩)
   | (go_at_call 48; refine (Calls.mono (CMx.out _ HD.out) ?_); rintro e w1 ⟨rfl, rfl⟩)))
  all_goals go_wp2_with fail
  all_goals go_meet
  all_goals exact ⟨_, _, z, rfl, Lib.hid (Mem.blk_new w _), Lib.hid (((Below.refl w.heap.size w).alloc (Nat.le_refl _) _).drew)⟩
 case rest =>
  obtain ⟨x3, x4, z, rfl, HX, HB⟩ := hcut
  clear CSt CMx HD
  go_wp2_with fail
  go_loopg [25] 4 (fun gg s25 wx => ∃ mp : Nat, mp ≤ 2 ∧ 3 - mp < gg ∧ Hid (wx.heap[w.heap.size]? = some (.cells (regC bP x3 x4 An cn mp ncap z b) 132 (0, 0))) ∧ Hid (Below w.heap.size w wx))
  case atStart => exact ⟨0, by omega, by omega, HX, HB⟩
  case round =>
   obtain ⟨mp, hmp, hg, HX1, HB1⟩ := hrel
   obtain ⟨g', rfl⟩ : ∃ g', gk = g' + 1 := ⟨gk - 1, by omega⟩
   rcases (show mp = 0 ∨ mp = 1 ∨ mp = 2 by omega) with rfl | rfl | rfl
   ·have m0 := low HB1.out (HM.out 0 (by omega))
    have x10 := cell_at HX1.out (i := 10) (v := .int .i64 (0 : Nat)) rfl
    have z10 := fz_at HX1.out 10
    have hp0 := low HB1.out p0
    by_cases hlt : 128 < L.length
    ·have hb : decide ((128 : Int) < (L.length : Int)) = true := decide_eq_true (by omega)
     go_upto_region 2 with fail
     go_quiet (fail)
     go_wp2_with fail
     go_roundg g'
     case rel => exact ⟨0+1, by omega, by omega, Lib.hid (heap_setCell_same (wr.drewN nq) w.heap.size 10 _ _ _ HX1.out), Lib.hid ((Mem.below_drewN HB1.out nq).setCell (p := ⟨w.heap.size, 10, none⟩) (Nat.le_refl _) _)⟩
     case measure => omega
    ·have hb : decide ((128 : Int) < (L.length : Int)) = false := decide_eq_false (by omega)
     go_upto_region 2 with fail
     go_quiet (fail)
     go_wp2_with fail
     go_ret
     exact ⟨w.heap.size, 0, _, rfl, HX1.out, rfl, rfl, rfl, rfl, by omega, by simp [mszN]; omega, Nat.le_refl _, Mem.below_drewN HB1.out nq⟩
   ·have m0 := low HB1.out (HM.out 1 (by omega))
    have x10 := cell_at HX1.out (i := 10) (v := .int .i64 (1 : Nat)) rfl
    have z10 := fz_at HX1.out 10
    have hp0 := low HB1.out p0
    by_cases hlt : 512 < L.length
    ·have hb : decide ((512 : Int) < (L.length : Int)) = true := decide_eq_true (by omega)
     go_upto_region 2 with fail
     go_quiet (fail)
     go_wp2_with fail
     go_roundg g'
     case rel => exact ⟨1+1, by omega, by omega, Lib.hid (heap_setCell_same (wr.drewN nq) w.heap.size 10 _ _ _ HX1.out), Lib.hid ((Mem.below_drewN HB1.out nq).setCell (p := ⟨w.heap.size, 10, none⟩) (Nat.le_refl _) _)⟩
     case measure => omega
    ·have hb : decide ((512 : Int) < (L.length : Int)) = false := decide_eq_false (by omega)
     go_upto_region 2 with fail
     go_quiet (fail)
     go_wp2_with fail
     go_ret
     exact ⟨w.heap.size, 1, _, rfl, HX1.out, rfl, rfl, rfl, rfl, by omega, by simp [mszN]; omega, Nat.le_refl _, Mem.below_drewN HB1.out nq⟩
   ·have m0 := low HB1.out (HM.out 2 (by omega))
    have x10 := cell_at HX1.out (i := 10) (v := .int .i64 (2 : Nat)) rfl
    have z10 := fz_at HX1.out 10
    have hp0 := low HB1.out p0
    have hb : decide ((2048 : Int) < (L.length : Int)) = false := decide_eq_false (by omega)
    go_upto_region 2 with fail
    go_quiet (fail)
    go_wp2_with fail
    go_ret
    exact ⟨w.heap.size, 2, _, rfl, HX1.out, rfl, rfl, rfl, rfl, by omega, by simp [mszN]; omega, Nat.le_refl _, Mem.below_drewN HB1.out nq⟩
end
end Go.Proofs.YtcncclglmgdinaaDoor.Ps
namespace Go.Proofs.YtcncclglmgdinaaDoor.Ps
open Go.RowKit Mem Go.Proofs.YtcncclglmgdinaaDoor.PFnPgStep Go.Proofs.YtcncclglmgdinaaDoorW.PrintWords Go.Proofs.YtcncclglmgdinaaDoorW.PrintLast Go.Proofs.YtcncclglmgdinaaDoorW.PrintMore
set_option linter.unusedVariables false
theorem mk_u32s (n : Nat) (hc : n ≤ 1000000) : ∃ C : Array Value, C.size = n ∧ (∀ i, i < n → C[i]? = some (.int .u32 0)) ∧ ∀ w : World, Sem.run Tryd.prog (Instr.makeSlice 45 (.int .i64 n) (.int .i64 n)) w = .ok (.slice (some ⟨w.heap.size, 0, none⟩) n n) (w.alloc (.cells C 75)) := by
 refine ⟨madeCells (Value.int .u32 0).cells (n * 1), by simp [madeCells], fun i hi => ?_, mk_zero (z := .int .u32 0) (size := 1) (bytes := 4) Tryd.underlying45 (by kernel_rfl) n n (Nat.le_refl _) hc (by omega) (by omega)⟩
 simp [madeCells, Value.cells, hi, Nat.mod_one]
theorem mk_ents (n : Nat) (hc : n ≤ 1000000) : ∃ C : Array Value, C.size = n * 2 ∧ ∀ w : World, Sem.run Tryd.prog (Instr.makeSlice 78 (.int .i64 0) (.int .i64 n)) w = .ok (.slice (some ⟨w.heap.size, 0, none⟩) 0 n) (w.alloc (.cells C 135)) := by
 refine ⟨madeCells (Value.agg #[.int .u32 0, .pointer none]).cells (n * 2), by simp [madeCells], ?_⟩
 exact mk_zero (z := .agg #[.int .u32 0, .pointer none]) (size := 2) (bytes := 16) Tryd.underlying78 (by kernel_rfl) 0 n (by omega) hc (by omega) (by omega)
def machC (v0 v1 v2 v3 v4 v5 v8 : Value) : Array Value := #[v0, v1, v2, v3, v4, v5, .slice none 0 0, .bool false, v8, .slice none 0 0, .string ⟨#[]⟩, .nilIface, .bool false, .int .i64 0]
theorem size1 (w : World) (o : Obj) : (w.alloc o).heap.size = w.heap.size + 1 := by simp
theorem two_set {w W : World} {b s0 d0 B : Nat} {v0 v1 v2 v3 v4 v5 v8 : Value} {CS CE : Array Value} (hM : W.heap[b]? = some (.cells (machC v0 v1 v2 v3 v4 v5 v8) 94 (0, 0))) (hs : W.heap[s0]? = some (.cells CS 75 (0, 0))) (hd : W.heap[d0]? = some (.cells CE 135 (0, 0))) (hB : Below B w W) (hb : B ≤ b) (sv dv : Value) :
  ((W.setCell ⟨b, 2, none⟩ sv).setCell ⟨b, 3, none⟩ dv).drew.heap[b]? = some (.cells (machC v0 v1 sv dv v4 v5 v8) 94 (0, 0)) ∧ ((W.setCell ⟨b, 2, none⟩ sv).setCell ⟨b, 3, none⟩ dv).drew.heap[s0]? = some (.cells CS 75 (0, 0)) ∧ ((W.setCell ⟨b, 2, none⟩ sv).setCell ⟨b, 3, none⟩ dv).drew.heap[d0]? = some (.cells CE 135 (0, 0)) ∧ Below B w ((W.setCell ⟨b, 2, none⟩ sv).setCell ⟨b, 3, none⟩ dv).drew := by
 refine ⟨heap_setCell_same _ b 3 _ _ dv (heap_setCell_same W b 2 _ _ sv hM), ?_, ?_, ?_⟩
 ·exact Mem.blk_set_ne (Mem.blk_set_ne hs (p := ⟨b, 2, none⟩) (ne_ty hs hM (by decide)) sv) (p := ⟨b, 3, none⟩) (ne_ty hs hM (by decide)) dv
 ·exact Mem.blk_set_ne (Mem.blk_set_ne hd (p := ⟨b, 2, none⟩) (ne_ty hd hM (by decide)) sv) (p := ⟨b, 3, none⟩) (ne_ty hd hM (by decide)) dv
 ·exact ((hB.setCell (p := ⟨b, 2, none⟩) hb sv).setCell (p := ⟨b, 3, none⟩) hb dv).drew
theorem two_set2 {w W : World} {b s0 d0 B : Nat} {v0 v1 v2 v3 v4 v5 v8 : Value} {CS CE : Array Value} (hM : W.heap[b]? = some (.cells (machC v0 v1 v2 v3 v4 v5 v8) 94 (0, 0))) (hs : W.heap[s0]? = some (.cells CS 75 (0, 0))) (hd : W.heap[d0]? = some (.cells CE 135 (0, 0))) (hB : Below B w W) (hb : B ≤ b) (sv dv : Value) :
  ((W.setCell ⟨b, 4, none⟩ sv).setCell ⟨b, 5, none⟩ dv).drew.heap[b]? = some (.cells (machC v0 v1 v2 v3 sv dv v8) 94 (0, 0)) ∧ ((W.setCell ⟨b, 4, none⟩ sv).setCell ⟨b, 5, none⟩ dv).drew.heap[s0]? = some (.cells CS 75 (0, 0)) ∧ ((W.setCell ⟨b, 4, none⟩ sv).setCell ⟨b, 5, none⟩ dv).drew.heap[d0]? = some (.cells CE 135 (0, 0)) ∧ Below B w ((W.setCell ⟨b, 4, none⟩ sv).setCell ⟨b, 5, none⟩ dv).drew := by
 refine ⟨heap_setCell_same _ b 5 _ _ dv (heap_setCell_same W b 4 _ _ sv hM), ?_, ?_, ?_⟩
 ·exact Mem.blk_set_ne (Mem.blk_set_ne hs (p := ⟨b, 4, none⟩) (ne_ty hs hM (by decide)) sv) (p := ⟨b, 5, none⟩) (ne_ty hs hM (by decide)) dv
 ·exact Mem.blk_set_ne (Mem.blk_set_ne hd (p := ⟨b, 4, none⟩) (ne_ty hd hM (by decide)) sv) (p := ⟨b, 5, none⟩) (ne_ty hd hM (by decide)) dv
 ·exact ((hB.setCell (p := ⟨b, 4, none⟩) hb sv).setCell (p := ⟨b, 5, none⟩) hb dv).drew
set_option maxRecDepth 100000 in
set_option maxHeartbeats 8000000 in
theorem get_c (w : World) (bR bP mp : Nat) (ncap : Int) (cr : Array Value) (hR : w.heap[bR]? = some (.cells cr 132 (0, 0))) (h1 : cr[1]? = some (.pointer (some ⟨bP, 0, none⟩))) (h10 : cr[10]? = some (.int .i64 mp)) (h11 : cr[11]? = some (.int .i64 ncap)) (hmp : mp ≤ 2) (hn0 : 2 ≤ ncap) (hn1 : ncap ≤ 2002) (hm : MSz w) (hG : 0 < w.heap.size) :
  Calls Tryd.prog 58 #[.pointer (some ⟨bR, 0, none⟩)] w fun e w' => ∃ (s0 d0 s1 d1 gm nc : Nat) (CS CE : Array Value), e = .returned (.pointer (some ⟨w.heap.size, 0, none⟩)) ∧ ncap = nc ∧ w'.heap[w.heap.size]? = some (.cells (machC (.pointer (some ⟨bR, 0, none⟩)) (.pointer (some ⟨bP, 0, none⟩)) (.slice (some ⟨s0, 0, none⟩) (mszN mp) (mszN mp)) (.slice (some ⟨d0, 0, none⟩) 0 (mszN mp)) (.slice (some ⟨s1, 0, none⟩) (mszN mp) (mszN mp)) (.slice (some ⟨d1, 0, none⟩) 0 (mszN mp)) (.slice (some ⟨gm, 0, none⟩) nc nc)) 94 (0, 0)) ∧ w'.heap[s0]? = some (.cells CS 75 (0, 0)) ∧ w'.heap[d0]? = some (.cells CE 135 (0, 0)) ∧ w'.heap[s1]? = some (.cells CS 75 (0, 0)) ∧ w'.heap[d1]? = some (.cells CE 135 (0, 0)) ∧ CS.size = mszN mp ∧ (∀ i, i < mszN mp → CS[i]? = some (.int .u32 0)) ∧ CE.size = mszN mp * 2 ∧ s0 ≠ s1 ∧ d0 ≠ d1 ∧ w.heap.size ≤ s0 ∧ w.heap.size ≤ d0 ∧ w.heap.size ≤ s1 ∧ w.heap.size ≤ d1 ∧ Below w.heap.size w w' := by
 have HR := Lib.hid hR; have H1 := Lib.hid h1; have H10 := Lib.hid h10; have H11 := Lib.hid h11
 have r1 := cell_at hR h1
 have r11 := cell_at hR h11
 obtain ⟨nc, rfl⟩ : ∃ nc : Nat, ncap = nc := ⟨ncap.toNat, by omega⟩
 obtain ⟨n, hn⟩ : ∃ n, mszN mp = n := ⟨_, rfl⟩
 have hn3 : 128 ≤ n ∧ n ≤ 2048 := by
  rw [← hn]
  rcases (show mp = 0 ∨ mp = 1 ∨ mp = 2 by omega) with rfl | rfl | rfl <;> decide
 have hG0 : w.cell? ⟨0, mp, none⟩ = some (.int .i64 (n : Nat)) := by
  rw [← hn, hm mp (by omega)]
  rcases (show mp = 0 ∨ mp = 1 ∨ mp = 2 by omega) with rfl | rfl | rfl <;> rfl
 have hnz : ((n : Int) == 0) = false := by rw [beq_eq_false_iff_ne]; omega
 have hnz2 : decide ((0 : Int) < (n : Int)) = true := decide_eq_true (by omega)
 have hnz3 : decide (0 < n) = true := decide_eq_true (by omega)
 obtain ⟨C, hC, hmk0⟩ := mk_ints nc nc (Nat.le_refl _) (by omega)
 have hmk : ∀ w : World, Sem.run Tryd.prog (Instr.makeSlice 25 (.int .i64 nc) (.int .i64 nc)) w = .ok (.slice (some ⟨w.heap.size, 0, none⟩) nc nc) (w.alloc (.cells C 3)) := hmk0
 clear hmk0
 have hb : decide ((0 : Int) < (nc : Int)) = true := decide_eq_true (by omega)
 rw [hn]
 clear hR h1 h10 h11 hm
 go_enter Tryd.func58, Tryd.ntmps58
 go_upto_region 2 with fail
 have HM0 := Lib.hid (show (w.alloc (.cells #[.pointer none, .pointer none, .slice none 0 0, .slice none 0 0, .slice none 0 0, .slice none 0 0, .slice none 0 0, .bool false, .slice none 0 0, .slice none 0 0, .string ⟨#[]⟩, .nilIface, .bool false, .int .i64 0] 94)).heap[w.heap.size]? = some (.cells (machC (.pointer none) (.pointer none) (.slice none 0 0) (.slice none 0 0) (.slice none 0 0) (.slice none 0 0) (.slice none 0 0)) 94 (0, 0)) from Mem.blk_new w _)
 have HB0 := Lib.hid ((Below.refl w.heap.size w).alloc (Nat.le_refl _) (.cells #[.pointer none, .pointer none, .slice none 0 0, .slice none 0 0, .slice none 0 0, .slice none 0 0, .slice none 0 0, .bool false, .slice none 0 0, .slice none 0 0, .string ⟨#[]⟩, .nilIface, .bool false, .int .i64 0] 94))
 clear r1 r11
 generalize w.alloc (.cells #[.pointer none, .pointer none, .slice none 0 0, .slice none 0 0, .slice none 0 0, .slice none 0 0, .slice none 0 0, .bool false, .slice none 0 0, .slice none 0 0, .string ⟨#[]⟩, .nilIface, .bool false, .int .i64 0] 94) = W0 at *
 have k0 := cell_at HM0.out (i := 0) rfl
 have z0 := fz_at HM0.out 0
 go_upto_region 3 with fail
 have HM1 := Lib.hid (show (W0.setCell ⟨w.heap.size, 0, none⟩ (.pointer (some ⟨bR, 0, none⟩))).heap[w.heap.size]? = some (.cells (machC (.pointer (some ⟨bR, 0, none⟩)) (.pointer none) (.slice none 0 0) (.slice none 0 0) (.slice none 0 0) (.slice none 0 0) (.slice none 0 0)) 94 (0, 0)) from heap_setCell_same W0 w.heap.size 0 _ _ (.pointer (some ⟨bR, 0, none⟩)) HM0.out)
 have HB1 := Lib.hid (HB0.out.setCell (p := ⟨w.heap.size, 0, none⟩) (Nat.le_refl _) (.pointer (some ⟨bR, 0, none⟩)))
 clear k0 z0 
 generalize W0.setCell ⟨w.heap.size, 0, none⟩ (.pointer (some ⟨bR, 0, none⟩)) = W1 at *
 have r1 := low HB1.out (cell_at HR.out H1.out)
 have k1 := cell_at HM1.out (i := 1) rfl
 have z1 := fz_at HM1.out 1
 go_upto_region 4 with fail
 have HM2 := Lib.hid (show (W1.setCell ⟨w.heap.size, 1, none⟩ (.pointer (some ⟨bP, 0, none⟩))).heap[w.heap.size]? = some (.cells (machC (.pointer (some ⟨bR, 0, none⟩)) (.pointer (some ⟨bP, 0, none⟩)) (.slice none 0 0) (.slice none 0 0) (.slice none 0 0) (.slice none 0 0) (.slice none 0 0)) 94 (0, 0)) from heap_setCell_same W1 w.heap.size 1 _ _ (.pointer (some ⟨bP, 0, none⟩)) HM1.out)
 have HB2 := Lib.hid (HB1.out.setCell (p := ⟨w.heap.size, 1, none⟩) (Nat.le_refl _) (.pointer (some ⟨bP, 0, none⟩)))
 clear k1 z1 r1
 generalize W1.setCell ⟨w.heap.size, 1, none⟩ (.pointer (some ⟨bP, 0, none⟩)) = W2 at *
 have k8 : W2.cell? ⟨w.heap.size, 8, none⟩ = some (.slice none 0 0) := cell_at HM2.out rfl
 have r11 := low HB2.out (cell_at HR.out H11.out)
 go_region_held3 (fun w' => w'.cell? ⟨w.heap.size, 8, none⟩ = some (.slice none 0 0) ∧ w'.cell? ⟨bR, 11, none⟩ = some (.int .i64 (nc : Nat))) (go_keep) (fail)
 clear k8 r11
 have HM3 := Lib.hid (show W2.drew.heap[w.heap.size]? = _ from HM2.out)
 have HB3 := Lib.hid (HB2.out.drew)
 generalize W2.drew = W3 at *
 have hb' : decide (0 < nc) = true := decide_eq_true (by omega)
 have r11 := low HB3.out (cell_at HR.out H11.out)
 have hbI := (Below.refl W3.heap.size W3).alloc (Nat.le_refl _) (.cells C 3)
 have HM4 := Lib.hid ((hbI.block _ (lt_of_block HM3.out)).trans HM3.out)
 have HB4 := Lib.hid (HB3.out.trans (hbI.mono HB3.out.size))
 have k8 : (W3.alloc (.cells C 3)).cell? ⟨w.heap.size, 8, none⟩ = some (.slice none 0 0) := cell_at HM4.out rfl
 have z8 := fz_at HM4.out 8
 clear hbI
 go_upto_region 6 with fail
 clear r11 hb hb'
 generalize W3.alloc (.cells C 3) = W4 at *
 generalize W3.heap.size = gm at *
 have HM5 := Lib.hid (show (W4.setCell ⟨w.heap.size, 8, none⟩ (.slice (some ⟨gm, 0, none⟩) nc nc)).heap[w.heap.size]? = some (.cells (machC (.pointer (some ⟨bR, 0, none⟩)) (.pointer (some ⟨bP, 0, none⟩)) (.slice none 0 0) (.slice none 0 0) (.slice none 0 0) (.slice none 0 0) (.slice (some ⟨gm, 0, none⟩) nc nc)) 94 (0, 0)) from heap_setCell_same W4 w.heap.size 8 _ _ (.slice (some ⟨gm, 0, none⟩) nc nc) HM4.out)
 have HB5 := Lib.hid (HB4.out.setCell (p := ⟨w.heap.size, 8, none⟩) (Nat.le_refl _) (.slice (some ⟨gm, 0, none⟩) nc nc))
 clear k8 z8
 generalize W4.setCell ⟨w.heap.size, 8, none⟩ (.slice (some ⟨gm, 0, none⟩) nc nc) = W5 at *
 have k6 : W5.cell? ⟨w.heap.size, 6, none⟩ = some (.slice none 0 0) := cell_at HM5.out rfl
 go_wp2_with fail
 clear k6
 go_loopg [42] 1 (fun gg s42 wx => s42 = .int .i64 0 ∧ wx = W5)
 case atStart => exact ⟨rfl, rfl⟩
 case round =>
  obtain ⟨rfl, rfl⟩ := hrel
  have r10 := low HB5.out (cell_at HR.out H10.out)
  have m0 := low HB5.out hG0
  have k2 : wr.cell? ⟨w.heap.size, 2, none⟩ = some (.slice none 0 0) := cell_at HM5.out rfl
  go_upto_region 14 with fail
  obtain ⟨CS, hCS, hCS2, hms⟩ := mk_u32s n (by omega)
  obtain ⟨CE, hCE, hme⟩ := mk_ents n (by omega)
  clear r10 m0
  go_upto_region 15 with fail
  clear k2
  go_cut [81] (fun s81 wx => ∃ s0 d0 : Nat, Hid (wx.heap[w.heap.size]? = some (.cells (machC (.pointer (some ⟨bR, 0, none⟩)) (.pointer (some ⟨bP, 0, none⟩)) (.slice (some ⟨s0, 0, none⟩) n n) (.slice (some ⟨d0, 0, none⟩) 0 n) (.slice none 0 0) (.slice none 0 0) (.slice (some ⟨gm, 0, none⟩) nc nc)) 94 (0, 0))) ∧ Hid (wx.heap[s0]? = some (.cells CS 75 (0, 0))) ∧ Hid (wx.heap[d0]? = some (.cells CE 135 (0, 0))) ∧ w.heap.size ≤ s0 ∧ w.heap.size ≤ d0 ∧ Hid (Below w.heap.size w wx))
  case first =>
   have w2 : ∀ o1 o2 : Obj, ((wr.alloc o1).alloc o2).drew.cell? ⟨w.heap.size, 2, none⟩ = some (.slice none 0 0) := fun o1 o2 => cell_at (show ((wr.alloc o1).alloc o2).drew.heap[w.heap.size]? = _ from Mem.blk_old (Mem.blk_old HM5.out o1) o2) rfl
   have x2 : ∀ o1 o2 : Obj, ((wr.alloc o1).alloc o2).cell? ⟨w.heap.size, 2, none⟩ = some (.slice none 0 0) := fun o1 o2 => cell_at (Mem.blk_old (Mem.blk_old HM5.out o1) o2) rfl
   have y2 : ∀ o1 o2 : Obj, ((wr.alloc o1).alloc o2).drew.frozen? ⟨w.heap.size, 2, none⟩ = false := fun o1 o2 => fz_at (show ((wr.alloc o1).alloc o2).drew.heap[w.heap.size]? = _ from Mem.blk_old (Mem.blk_old HM5.out o1) o2) 2
   have v2 : ∀ o1 o2 : Obj, ((wr.alloc o1).alloc o2).frozen? ⟨w.heap.size, 2, none⟩ = false := fun o1 o2 => fz_at (Mem.blk_old (Mem.blk_old HM5.out o1) o2) 2
   have w3 : ∀ o1 o2 : Obj, ((wr.alloc o1).alloc o2).drew.cell? ⟨w.heap.size, 3, none⟩ = some (.slice none 0 0) := fun o1 o2 => cell_at (show ((wr.alloc o1).alloc o2).drew.heap[w.heap.size]? = _ from Mem.blk_old (Mem.blk_old HM5.out o1) o2) rfl
   have x3 : ∀ o1 o2 : Obj, ((wr.alloc o1).alloc o2).cell? ⟨w.heap.size, 3, none⟩ = some (.slice none 0 0) := fun o1 o2 => cell_at (Mem.blk_old (Mem.blk_old HM5.out o1) o2) rfl
   have y3 : ∀ o1 o2 : Obj, ((wr.alloc o1).alloc o2).drew.frozen? ⟨w.heap.size, 3, none⟩ = false := fun o1 o2 => fz_at (show ((wr.alloc o1).alloc o2).drew.heap[w.heap.size]? = _ from Mem.blk_old (Mem.blk_old HM5.out o1) o2) 3
   have v3 : ∀ o1 o2 : Obj, ((wr.alloc o1).alloc o2).frozen? ⟨w.heap.size, 3, none⟩ = false := fun o1 o2 => fz_at (Mem.blk_old (Mem.blk_old HM5.out o1) o2) 3
   go_region_held3 (fun _ => True) (first | trivial | go_keep) (fail)
   all_goals go_wp2_with fail
   all_goals go_meet
   ·have hsb := Mem.blk_old (Mem.blk_new wr (.cells CS 75)) (.cells CE 135)
    have hdb := Mem.blk_new (wr.alloc (.cells CS 75)) (.cells CE 135)
    rw [size1] at hdb
    obtain ⟨t1, t2, t3, t4⟩ := two_set (Mem.blk_old (Mem.blk_old HM5.out (.cells CS 75)) (.cells CE 135)) hsb hdb ((HB5.out.alloc HB5.out.size _).alloc (HB5.out.alloc HB5.out.size _).size _) (Nat.le_refl _) (.slice (some ⟨wr.heap.size, 0, none⟩) n n) (.slice (some ⟨wr.heap.size + 1, 0, none⟩) 0 n)
    exact ⟨_, _, Lib.hid t1, Lib.hid t2, Lib.hid t3, HB5.out.size, by have := HB5.out.size; omega, Lib.hid t4⟩
   ·have hdb := Mem.blk_old (Mem.blk_new wr (.cells CE 135)) (.cells CS 75)
    have hsb := Mem.blk_new (wr.alloc (.cells CE 135)) (.cells CS 75)
    rw [size1] at hsb
    obtain ⟨t1, t2, t3, t4⟩ := two_set (Mem.blk_old (Mem.blk_old HM5.out (.cells CE 135)) (.cells CS 75)) hsb hdb ((HB5.out.alloc HB5.out.size _).alloc (HB5.out.alloc HB5.out.size _).size _) (Nat.le_refl _) (.slice (some ⟨wr.heap.size + 1, 0, none⟩) n n) (.slice (some ⟨wr.heap.size, 0, none⟩) 0 n)
    exact ⟨_, _, Lib.hid t1, Lib.hid t2, Lib.hid t3, by have := HB5.out.size; omega, HB5.out.size, Lib.hid t4⟩
  case rest =>
   obtain ⟨s0, d0, HM6, HS0, HD0, hgs0, hgd0, HB6⟩ := hcut
   go_upto_region 16 with fail
   go_cut [89] (fun s89 wx => ∃ s1 d1 : Nat, Hid (wx.heap[w.heap.size]? = some (.cells (machC (.pointer (some ⟨bR, 0, none⟩)) (.pointer (some ⟨bP, 0, none⟩)) (.slice (some ⟨s0, 0, none⟩) n n) (.slice (some ⟨d0, 0, none⟩) 0 n) (.slice (some ⟨s1, 0, none⟩) n n) (.slice (some ⟨d1, 0, none⟩) 0 n) (.slice (some ⟨gm, 0, none⟩) nc nc)) 94 (0, 0))) ∧ Hid (wx.heap[s1]? = some (.cells CS 75 (0, 0))) ∧ Hid (wx.heap[d1]? = some (.cells CE 135 (0, 0))) ∧ w.heap.size ≤ s1 ∧ w.heap.size ≤ d1 ∧ s0 ≠ s1 ∧ d0 ≠ d1 ∧ Hid (wx.heap[s0]? = some (.cells CS 75 (0, 0))) ∧ Hid (wx.heap[d0]? = some (.cells CE 135 (0, 0))) ∧ Hid (Below w.heap.size w wx))
   case first =>
    have w4 : ∀ o1 o2 : Obj, ((wc.alloc o1).alloc o2).drew.cell? ⟨w.heap.size, 4, none⟩ = some (.slice none 0 0) := fun o1 o2 => cell_at (show ((wc.alloc o1).alloc o2).drew.heap[w.heap.size]? = _ from Mem.blk_old (Mem.blk_old HM6.out o1) o2) rfl
    have x4 : ∀ o1 o2 : Obj, ((wc.alloc o1).alloc o2).cell? ⟨w.heap.size, 4, none⟩ = some (.slice none 0 0) := fun o1 o2 => cell_at (Mem.blk_old (Mem.blk_old HM6.out o1) o2) rfl
    have y4 : ∀ o1 o2 : Obj, ((wc.alloc o1).alloc o2).drew.frozen? ⟨w.heap.size, 4, none⟩ = false := fun o1 o2 => fz_at (show ((wc.alloc o1).alloc o2).drew.heap[w.heap.size]? = _ from Mem.blk_old (Mem.blk_old HM6.out o1) o2) 4
    have v4 : ∀ o1 o2 : Obj, ((wc.alloc o1).alloc o2).frozen? ⟨w.heap.size, 4, none⟩ = false := fun o1 o2 => fz_at (Mem.blk_old (Mem.blk_old HM6.out o1) o2) 4
    have w5 : ∀ o1 o2 : Obj, ((wc.alloc o1).alloc o2).drew.cell? ⟨w.heap.size, 5, none⟩ = some (.slice none 0 0) := fun o1 o2 => cell_at (show ((wc.alloc o1).alloc o2).drew.heap[w.heap.size]? = _ from Mem.blk_old (Mem.blk_old HM6.out o1) o2) rfl
    have x5 : ∀ o1 o2 : Obj, ((wc.alloc o1).alloc o2).cell? ⟨w.heap.size, 5, none⟩ = some (.slice none 0 0) := fun o1 o2 => cell_at (Mem.blk_old (Mem.blk_old HM6.out o1) o2) rfl
    have y5 : ∀ o1 o2 : Obj, ((wc.alloc o1).alloc o2).drew.frozen? ⟨w.heap.size, 5, none⟩ = false := fun o1 o2 => fz_at (show ((wc.alloc o1).alloc o2).drew.heap[w.heap.size]? = _ from Mem.blk_old (Mem.blk_old HM6.out o1) o2) 5
    have v5 : ∀ o1 o2 : Obj, ((wc.alloc o1).alloc o2).frozen? ⟨w.heap.size, 5, none⟩ = false := fun o1 o2 => fz_at (Mem.blk_old (Mem.blk_old HM6.out o1) o2) 5
    go_region_held3 (fun _ => True) (first | trivial | go_keep) (fail)
    all_goals go_wp2_with fail
    all_goals go_meet
    ·have hsb := Mem.blk_old (Mem.blk_new wc (.cells CS 75)) (.cells CE 135)
     have hdb := Mem.blk_new (wc.alloc (.cells CS 75)) (.cells CE 135)
     rw [size1] at hdb
     obtain ⟨t1, t2, t3, t4⟩ := two_set2 (Mem.blk_old (Mem.blk_old HM6.out (.cells CS 75)) (.cells CE 135)) hsb hdb ((HB6.out.alloc HB6.out.size _).alloc (HB6.out.alloc HB6.out.size _).size _) (Nat.le_refl _) (.slice (some ⟨wc.heap.size, 0, none⟩) n n) (.slice (some ⟨wc.heap.size + 1, 0, none⟩) 0 n)
     obtain ⟨_, q2, q3, _⟩ := two_set2 (Mem.blk_old (Mem.blk_old HM6.out (.cells CS 75)) (.cells CE 135)) (Mem.blk_old (Mem.blk_old HS0.out (.cells CS 75)) (.cells CE 135)) (Mem.blk_old (Mem.blk_old HD0.out (.cells CS 75)) (.cells CE 135)) ((HB6.out.alloc HB6.out.size _).alloc (HB6.out.alloc HB6.out.size _).size _) (Nat.le_refl _) (.slice (some ⟨wc.heap.size, 0, none⟩) n n) (.slice (some ⟨wc.heap.size + 1, 0, none⟩) 0 n)
     have hl1 := lt_of_block HS0.out
     have hl2 := lt_of_block HD0.out
     exact ⟨_, _, Lib.hid t1, Lib.hid t2, Lib.hid t3, by have := HB6.out.size; omega, by have := HB6.out.size; omega, by omega, by omega, Lib.hid q2, Lib.hid q3, Lib.hid t4⟩
    ·have hdb := Mem.blk_old (Mem.blk_new wc (.cells CE 135)) (.cells CS 75)
     have hsb := Mem.blk_new (wc.alloc (.cells CE 135)) (.cells CS 75)
     rw [size1] at hsb
     obtain ⟨t1, t2, t3, t4⟩ := two_set2 (Mem.blk_old (Mem.blk_old HM6.out (.cells CE 135)) (.cells CS 75)) hsb hdb ((HB6.out.alloc HB6.out.size _).alloc (HB6.out.alloc HB6.out.size _).size _) (Nat.le_refl _) (.slice (some ⟨wc.heap.size + 1, 0, none⟩) n n) (.slice (some ⟨wc.heap.size, 0, none⟩) 0 n)
     obtain ⟨_, q2, q3, _⟩ := two_set2 (Mem.blk_old (Mem.blk_old HM6.out (.cells CE 135)) (.cells CS 75)) (Mem.blk_old (Mem.blk_old HS0.out (.cells CE 135)) (.cells CS 75)) (Mem.blk_old (Mem.blk_old HD0.out (.cells CE 135)) (.cells CS 75)) ((HB6.out.alloc HB6.out.size _).alloc (HB6.out.alloc HB6.out.size _).size _) (Nat.le_refl _) (.slice (some ⟨wc.heap.size + 1, 0, none⟩) n n) (.slice (some ⟨wc.heap.size, 0, none⟩) 0 n)
     have hl1 := lt_of_block HS0.out
     have hl2 := lt_of_block HD0.out
     exact ⟨_, _, Lib.hid t1, Lib.hid t2, Lib.hid t3, by have := HB6.out.size; omega, by have := HB6.out.size; omega, by omega, by omega, Lib.hid q2, Lib.hid q3, Lib.hid t4⟩
   case rest =>
    obtain ⟨s1, d1, HM7, HS1, HD1, hgs1, hgd1, hns, hnd, HS2, HD2, HB7⟩ := hcut
    go_wp2_with fail
    go_ret
    exact ⟨s0, d0, s1, d1, gm, nc, CS, CE, rfl, rfl, HM7.out, HS2.out, HD2.out, HS1.out, HD1.out, hCS, hCS2, hCE, hns, hnd, hgs0, hgd0, hgs1, hgd1, HB7.out⟩
end Go.Proofs.YtcncclglmgdinaaDoor.Ps
