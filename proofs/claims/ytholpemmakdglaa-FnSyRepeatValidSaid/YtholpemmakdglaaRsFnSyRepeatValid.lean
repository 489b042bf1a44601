/- The thin package's look at the repeats of a tree. -/
import Derived.Test.YtholpemmakdglaaRxFnSyRepeatValid
import Derived.Test.YtholpemmakdglaaRvFnSyRepeatValid
namespace Go.Proofs.Ytholpemmakdglaa.PFnSyRepeatValid
open Go.RowKit Go.Proofs.YtholpemmakdglaaW.PrintWords Go.Proofs.YtholpemmakdglaaW.PrintLast Go.Proofs.YtholpemmakdglaaW.PrintMore
set_option linter.unusedVariables false
set_option linter.unusedSimpArgs false
theorem snd_op {op : Int} {rs : List Int} {m0 m1 cp : Int} {sub : Nat} (h : sndF op rs m0 m1 cp sub = true) : 0 ≤ op ∧ op ≤ 255 := by
  unfold sndF at h
  by_cases c : 0 ≤ op ∧ op ≤ 255
  · exact c
  · exfalso
    rw [if_neg (by omega), if_neg (by omega), if_neg (by omega), if_neg (by omega), if_neg (by omega), if_neg (by omega), if_neg (by omega), if_neg (by omega)] at h
    exact Bool.false_ne_true h
mutual
theorem op_of_gd : ∀ (t : Tr) (h : Nat), gdT t h → opT t
  | ⟨op, fl, rs, m0, m1, cp, nm, ts⟩, h, hg => by
    rw [gdT] at hg
    rw [opT]
    have h1 := snd_op hg.2.1
    exact ⟨h1.1, h1.2, opL_of_gd ts (h + 1) hg.2.2.2.2⟩
theorem opL_of_gd : ∀ (ts : List Tr) (h : Nat), gdL ts h → opL ts
  | [], h, _ => by rw [opL]; trivial
  | t :: ts, h, hg => by
    rw [gdL] at hg
    rw [opL]
    exact ⟨op_of_gd t h hg.1, opL_of_gd ts h hg.2⟩
end
set_option maxRecDepth 100000 in
set_option maxHeartbeats 4000000 in
theorem treeFor_c (t : Tr) (A2 : Option Addr) (c2 : Nat) (A7 : Option Addr) (c7 : Nat) (w : World) (hwf : wfT t) (hsz : szT t) (hgd : gdT t 1) (hnc : ncT t ≤ 50000)
    (h2 : (Kd.int .i32).C w A2 t.f2.length t.f2) (hc2 : t.f2.length ≤ c2) (h7 : k35.C w A7 t.f7.length t.f7) (hc7 : t.f7.length ≤ c7) :
    Calls Try.prog 29 #[.agg #[.int .i64 t.f0, .int .i64 t.f1, .slice A2 t.f2.length c2, .int .i64 t.f3, .int .i64 t.f4, .int .i64 t.f5, .string t.f6, .slice A7 t.f7.length c7]] w fun e w' =>
      ∃ b, e = .returned (.tuple #[.pointer (some ⟨b, 0, none⟩), .bool true]) ∧ Below w.heap.size w w' ∧ RgT w' (fun _ => True) b t := by
  have CW : Hid (∀ w1, Below w.heap.size w w1 → w1.cell? ⟨w.heap.size + 1, 0, none⟩ = some (.int .i64 0) → w1.frozen? ⟨w.heap.size + 1, 0, none⟩ = false →
      Calls Try.prog 40 #[.agg #[.int .i64 t.f0, .int .i64 t.f1, .slice A2 t.f2.length c2, .int .i64 t.f3, .int .i64 t.f4, .int .i64 t.f5, .string t.f6, .slice A7 t.f7.length c7], .int .i64 1, .pointer (some ⟨w.heap.size + 1, 0, none⟩)] w1 fun e w' =>
      e = .returned (.tuple #[.int .i64 (wgT t), .bool true]) ∧ w1.grownBy w' (some (w.heap.size + 1))) := Lib.hid fun w1 hb hc hf =>
    (weigh_c (ncT t) t A2 c2 A7 c7 1 (w.heap.size + 1) 0 w w1 (Nat.le_refl _) hwf hgd (by omega) h2 hc2 h7 hc7 hb (by omega) hc hf).mono fun e w' h => ⟨h.1, h.2.1⟩
  have CR : Hid (∀ w1, Below w.heap.size w w1 → Calls Try.prog 41 #[.agg #[.int .i64 t.f0, .int .i64 t.f1, .slice A2 t.f2.length c2, .int .i64 t.f3, .int .i64 t.f4, .int .i64 t.f5, .string t.f6, .slice A7 t.f7.length c7]] w1 fun e w' =>
      ∃ b, e = .returned (.pointer (some ⟨b, 0, none⟩)) ∧ Below w1.heap.size w1 w' ∧ RgT w' (fun k => w1.heap.size ≤ k) b t) := Lib.hid fun w1 hb =>
    regexpOf_c (ncT t) t A2 c2 A7 c7 w1 (Nat.le_refl _) hwf hsz (op_of_gd t 1 hgd) (Kd.C_below h2 hb) hc2 (Kd.C_below h7 hb) hc7
  clear hwf hsz hgd hnc h2 h7
  go_enter Try.func29, Try.ntmps29
  go_upto_region 2 with fail
  have hb1 : Below w.heap.size w ((w.alloc (.cells #[.int .i64 t.f0, .int .i64 t.f1, .slice A2 t.f2.length c2, .int .i64 t.f3, .int .i64 t.f4, .int .i64 t.f5, .string t.f6, .slice A7 t.f7.length c7] 35)).alloc (.cells #[.int .i64 0] 3)) := ((Below.refl _ _).alloc (Nat.le_refl _) _).alloc (by simp) _
  have k0 := Mem.blk_old (Mem.blk_new w (.cells #[.int .i64 t.f0, .int .i64 t.f1, .slice A2 t.f2.length c2, .int .i64 t.f3, .int .i64 t.f4, .int .i64 t.f5, .string t.f6, .slice A7 t.f7.length c7] 35)) (.cells #[.int .i64 0] 3)
  have k1 := Mem.blk_new (w.alloc (.cells #[.int .i64 t.f0, .int .i64 t.f1, .slice A2 t.f2.length c2, .int .i64 t.f3, .int .i64 t.f4, .int .i64 t.f5, .string t.f6, .slice A7 t.f7.length c7] 35)) (.cells #[.int .i64 0] 3)
  have hs0 : (w.alloc (.cells #[.int .i64 t.f0, .int .i64 t.f1, .slice A2 t.f2.length c2, .int .i64 t.f3, .int .i64 t.f4, .int .i64 t.f5, .string t.f6, .slice A7 t.f7.length c7] 35)).heap.size = w.heap.size + 1 := by simp
  rw [hs0] at k1
  generalize (w.alloc (.cells #[.int .i64 t.f0, .int .i64 t.f1, .slice A2 t.f2.length c2, .int .i64 t.f3, .int .i64 t.f4, .int .i64 t.f5, .string t.f6, .slice A7 t.f7.length c7] 35)).alloc (.cells #[.int .i64 0] 3) = W1 at *
  clear hs0
  have d0 : W1.cell? ⟨w.heap.size, 0, none⟩ = some (.int .i64 t.f0) := (blk_cell k0 0).trans rfl
  have d1 : W1.cell? ⟨w.heap.size, 1, none⟩ = some (.int .i64 t.f1) := (blk_cell k0 1).trans rfl
  have d2 : W1.cell? ⟨w.heap.size, 2, none⟩ = some (.slice A2 t.f2.length c2) := (blk_cell k0 2).trans rfl
  have d3 : W1.cell? ⟨w.heap.size, 3, none⟩ = some (.int .i64 t.f3) := (blk_cell k0 3).trans rfl
  have d4 : W1.cell? ⟨w.heap.size, 4, none⟩ = some (.int .i64 t.f4) := (blk_cell k0 4).trans rfl
  have d5 : W1.cell? ⟨w.heap.size, 5, none⟩ = some (.int .i64 t.f5) := (blk_cell k0 5).trans rfl
  have d6 : W1.cell? ⟨w.heap.size, 6, none⟩ = some (.string t.f6) := (blk_cell k0 6).trans rfl
  have d7 : W1.cell? ⟨w.heap.size, 7, none⟩ = some (.slice A7 t.f7.length c7) := (blk_cell k0 7).trans rfl
  have d : W1.cell? ⟨w.heap.size + 1, 0, none⟩ = some (.int .i64 0) := (blk_cell k1 0).trans rfl
  have f := blk_frozen k1 0
  have HB1 := Lib.hid hb1
  have D := Lib.hid d
  have F := Lib.hid f
  have K0 := Lib.hid k0
  clear k0 k1 hb1 d f
  go_wp2_with (go_at_call 40; refine (CW.out _ HB1.out D.out F.out).mono ?_; rintro e w2 ⟨rfl, hg2⟩; have hb2 := Gb.toBelow HB1.out hg2 HB1.out.size (by omega); have HB2 := Lib.hid hb2; have k2 := Mem.blk_grown K0.out hg2 (by simp); have e0 := Gb.cell hg2 d0 (by simp); have e1 := Gb.cell hg2 d1 (by simp); have e2 := Gb.cell hg2 d2 (by simp); have e3 := Gb.cell hg2 d3 (by simp); have e4 := Gb.cell hg2 d4 (by simp); have e5 := Gb.cell hg2 d5 (by simp); have e6 := Gb.cell hg2 d6 (by simp); have e7 := Gb.cell hg2 d7 (by simp); clear hg2 hb2 k2 d0 d1 d2 d3 d4 d5 d6 d7)
  go_wp2_with (go_at_call 41; refine (CR.out _ HB2.out).mono ?_; rintro e w3 ⟨b, rfl, hb3, hr3⟩)
  go_ret2
  exact ⟨b, rfl, HB2.out.trans (hb3.mono HB2.out.size), rgT_move (fun k _ _ => ⟨rfl, trivial⟩) t b hr3⟩
set_option maxRecDepth 100000 in
set_option maxHeartbeats 4000000 in
theorem zzRepeatValid_c (t : Tr) (b : Nat) (n : Int) (w : World) (hr : RgT w (fun _ => True) b t) (h0 : 0 ≤ n) (h1 : n ≤ 1000) :
    Calls Try.prog 30 #[.pointer (some ⟨b, 0, none⟩), .int .i64 n] w fun e w' => e = .returned (.bool (rvT t n)) ∧ Below w.heap.size w w' := by
  have C := Lib.hid (repeatIsValid_c (ncT t) t b n w (Nat.le_refl _) hr h0 h1)
  clear hr
  go_enter Try.func30, Try.ntmps30
  go_wp2_with (go_at_call 42; refine C.out.mono ?_; rintro e w2 ⟨rfl, hb2⟩)
  go_ret
  exact ⟨rfl, hb2⟩
set_option maxRecDepth 100000 in
set_option maxHeartbeats 4000000 in
theorem syRepeatValid_c (t : Tr) (A2 : Option Addr) (c2 : Nat) (A7 : Option Addr) (c7 : Nat) (n : Int) (w : World) (hwf : wfT t) (hsz : szT t) (hgd : gdT t 1) (hnc : ncT t ≤ 50000)
    (h2 : (Kd.int .i32).C w A2 t.f2.length t.f2) (hc2 : t.f2.length ≤ c2) (h7 : k35.C w A7 t.f7.length t.f7) (hc7 : t.f7.length ≤ c7) (h0 : 0 ≤ n) (h1 : n ≤ 1000) :
    Calls Try.prog 18 #[.agg #[.int .i64 t.f0, .int .i64 t.f1, .slice A2 t.f2.length c2, .int .i64 t.f3, .int .i64 t.f4, .int .i64 t.f5, .string t.f6, .slice A7 t.f7.length c7], .int .i64 n] w fun e w' => e = .returned (.tuple #[.bool (rvT t n), .bool true]) ∧ Below w.heap.size w w' := by
  have CT : Hid (∀ w1, Below w.heap.size w w1 → Calls Try.prog 29 #[.agg #[.int .i64 t.f0, .int .i64 t.f1, .slice A2 t.f2.length c2, .int .i64 t.f3, .int .i64 t.f4, .int .i64 t.f5, .string t.f6, .slice A7 t.f7.length c7]] w1 fun e w' =>
      ∃ b, e = .returned (.tuple #[.pointer (some ⟨b, 0, none⟩), .bool true]) ∧ Below w1.heap.size w1 w' ∧ RgT w' (fun _ => True) b t) := Lib.hid fun w1 hb =>
    treeFor_c t A2 c2 A7 c7 w1 hwf hsz hgd hnc (Kd.C_below h2 hb) hc2 (Kd.C_below h7 hb) hc7
  clear hwf hsz hgd hnc h2 h7
  have hb1 : Below w.heap.size w (w.alloc (.cells #[.int .i64 t.f0, .int .i64 t.f1, .slice A2 t.f2.length c2, .int .i64 t.f3, .int .i64 t.f4, .int .i64 t.f5, .string t.f6, .slice A7 t.f7.length c7] 35)) := (Below.refl _ _).alloc (Nat.le_refl _) _
  have HB1 := Lib.hid hb1
  have k0 := Mem.blk_new w (.cells #[.int .i64 t.f0, .int .i64 t.f1, .slice A2 t.f2.length c2, .int .i64 t.f3, .int .i64 t.f4, .int .i64 t.f5, .string t.f6, .slice A7 t.f7.length c7] 35)
  have d0 : (w.alloc (.cells #[.int .i64 t.f0, .int .i64 t.f1, .slice A2 t.f2.length c2, .int .i64 t.f3, .int .i64 t.f4, .int .i64 t.f5, .string t.f6, .slice A7 t.f7.length c7] 35)).cell? ⟨w.heap.size, 0, none⟩ = some (.int .i64 t.f0) := (blk_cell k0 0).trans rfl
  have d1 : (w.alloc (.cells #[.int .i64 t.f0, .int .i64 t.f1, .slice A2 t.f2.length c2, .int .i64 t.f3, .int .i64 t.f4, .int .i64 t.f5, .string t.f6, .slice A7 t.f7.length c7] 35)).cell? ⟨w.heap.size, 1, none⟩ = some (.int .i64 t.f1) := (blk_cell k0 1).trans rfl
  have d2 : (w.alloc (.cells #[.int .i64 t.f0, .int .i64 t.f1, .slice A2 t.f2.length c2, .int .i64 t.f3, .int .i64 t.f4, .int .i64 t.f5, .string t.f6, .slice A7 t.f7.length c7] 35)).cell? ⟨w.heap.size, 2, none⟩ = some (.slice A2 t.f2.length c2) := (blk_cell k0 2).trans rfl
  have d3 : (w.alloc (.cells #[.int .i64 t.f0, .int .i64 t.f1, .slice A2 t.f2.length c2, .int .i64 t.f3, .int .i64 t.f4, .int .i64 t.f5, .string t.f6, .slice A7 t.f7.length c7] 35)).cell? ⟨w.heap.size, 3, none⟩ = some (.int .i64 t.f3) := (blk_cell k0 3).trans rfl
  have d4 : (w.alloc (.cells #[.int .i64 t.f0, .int .i64 t.f1, .slice A2 t.f2.length c2, .int .i64 t.f3, .int .i64 t.f4, .int .i64 t.f5, .string t.f6, .slice A7 t.f7.length c7] 35)).cell? ⟨w.heap.size, 4, none⟩ = some (.int .i64 t.f4) := (blk_cell k0 4).trans rfl
  have d5 : (w.alloc (.cells #[.int .i64 t.f0, .int .i64 t.f1, .slice A2 t.f2.length c2, .int .i64 t.f3, .int .i64 t.f4, .int .i64 t.f5, .string t.f6, .slice A7 t.f7.length c7] 35)).cell? ⟨w.heap.size, 5, none⟩ = some (.int .i64 t.f5) := (blk_cell k0 5).trans rfl
  have d6 : (w.alloc (.cells #[.int .i64 t.f0, .int .i64 t.f1, .slice A2 t.f2.length c2, .int .i64 t.f3, .int .i64 t.f4, .int .i64 t.f5, .string t.f6, .slice A7 t.f7.length c7] 35)).cell? ⟨w.heap.size, 6, none⟩ = some (.string t.f6) := (blk_cell k0 6).trans rfl
  have d7 : (w.alloc (.cells #[.int .i64 t.f0, .int .i64 t.f1, .slice A2 t.f2.length c2, .int .i64 t.f3, .int .i64 t.f4, .int .i64 t.f5, .string t.f6, .slice A7 t.f7.length c7] 35)).cell? ⟨w.heap.size, 7, none⟩ = some (.slice A7 t.f7.length c7) := (blk_cell k0 7).trans rfl
  clear k0 hb1
  go_enter Try.func18, Try.ntmps18
  go_wp2_with (go_at_call 29; refine (CT.out _ HB1.out).mono ?_; rintro e w2 ⟨b, rfl, hb2, hr2⟩; have CZ := Lib.hid (zzRepeatValid_c t b n w2 hr2 h0 h1); have HB2 := Lib.hid (HB1.out.trans (hb2.mono HB1.out.size)); clear hb2 hr2)
  go_wp2_with (go_at_call 30; refine CZ.out.mono ?_; rintro e w3 ⟨rfl, hb3⟩)
  go_ret2
  exact ⟨rfl, HB2.out.trans (hb3.mono HB2.out.size)⟩
end Go.Proofs.Ytholpemmakdglaa.PFnSyRepeatValid
