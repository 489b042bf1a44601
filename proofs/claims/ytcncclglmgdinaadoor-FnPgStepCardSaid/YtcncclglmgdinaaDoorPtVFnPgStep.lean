/- The threads' machine: the walk of 'add'. -/
import Derived.Test.YtcncclglmgdinaaDoorPtCFnPgStep
import Derived.WalkMore
namespace Go.Proofs.YtcncclglmgdinaaDoor.Ps
open Go.RowKit Mem Go.Proofs.YtcncclglmgdinaaDoor.PFnPgStep Go.Proofs.YtcncclglmgdinaaDoorW.PrintWords Go.Proofs.YtcncclglmgdinaaDoorW.PrintLast Go.Proofs.YtcncclglmgdinaaDoorW.PrintMore
set_option linter.unusedVariables false
theorem Acc.keepT {F : Fix} {w w' : World} {cs cs' : Array Value} {pv pv' : Value} {l l' : List Nat} {ths ths2 : List Value} {P0 P : List Nat} {t0 t : Option Nat} (h : Acc F w cs l ths P0 t0 w' cs' pv' l' ths2 P t)
  (hm : MS F.w0 w F.B F.bM F.bP F.qo F.n F.s F.d F.cm cs pv l ths P0) (ht : ∀ b, t0 = some b → (∃ iv, TH w b iv) ∧ F.B ≤ b) {b : Nat} {cb : Array Value} {T : TypeId} (hb : w.heap[b]? = some (.cells cb T (0, 0)))
  (h1 : T ≠ 94) (h2 : T ≠ 75) (h3 : T ≠ 135) (h4 : T ≠ 126) (h5 : T ≠ 138) : w'.heap[b]? = some (.cells cb T (0, 0)) := by
 obtain ⟨S, s0, _⟩ := hm.q.sp
 obtain ⟨E, d0, _⟩ := hm.q.de
 refine h.fr b cb T hb h1 (ne_ty hb s0 h2) (ne_ty hb d0 h3) h4 (fun hav => ?_)
 rcases List.mem_append.1 hav with hp | hp
 ·obtain ⟨iv, A, c, hth⟩ := hm.th b hp
  exact ne_ty hb hth h5 rfl
 ·have : t0 = some b := by simpa using hp
  obtain ⟨⟨iv, A, c, hth⟩, _⟩ := ht b this
  exact ne_ty hb hth h5 rfl
/-- The frame's first seven places. -/
def Fr7 (a : Act) (v0 v1 v2 v3 v4 v5 v6 : Value) : Prop := a.defers = [] ∧ a.tmps.size = 226 ∧ a.tmps[0]? = some v0 ∧ a.tmps[1]? = some v1 ∧ a.tmps[2]? = some v2 ∧ a.tmps[3]? = some v3 ∧ a.tmps[4]? = some v4 ∧ a.tmps[5]? = some v5 ∧ a.tmps[6]? = some v6
theorem Fr7.form {a : Act} {v0 v1 v2 v3 v4 v5 v6 : Value} (h : Fr7 a v0 v1 v2 v3 v4 v5 v6) : ∃ u : Nat → Value, a = { tmps := #[v0, v1, v2, v3, v4, v5, v6, u 7, u 8, u 9, u 10, u 11, u 12, u 13, u 14, u 15, u 16, u 17, u 18, u 19, u 20, u 21, u 22, u 23, u 24, u 25, u 26, u 27, u 28, u 29, u 30, u 31, u 32, u 33, u 34, u 35, u 36, u 37, u 38, u 39, u 40, u 41, u 42, u 43, u 44, u 45, u 46, u 47, u 48, u 49, u 50, u 51, u 52, u 53, u 54, u 55, u 56, u 57, u 58, u 59, u 60, u 61, u 62, u 63, u 64, u 65, u 66, u 67, u 68, u 69, u 70, u 71, u 72, u 73, u 74, u 75, u 76, u 77, u 78, u 79, u 80, u 81, u 82, u 83, u 84, u 85, u 86, u 87, u 88, u 89, u 90, u 91, u 92, u 93, u 94, u 95, u 96, u 97, u 98, u 99, u 100, u 101, u 102, u 103, u 104, u 105, u 106, u 107, u 108, u 109, u 110, u 111, u 112, u 113, u 114, u 115, u 116, u 117, u 118, u 119, u 120, u 121, u 122, u 123, u 124, u 125, u 126, u 127, u 128, u 129, u 130, u 131, u 132, u 133, u 134, u 135, u 136, u 137, u 138, u 139, u 140, u 141, u 142, u 143, u 144, u 145, u 146, u 147, u 148, u 149, u 150, u 151, u 152, u 153, u 154, u 155, u 156, u 157, u 158, u 159, u 160, u 161, u 162, u 163, u 164, u 165, u 166, u 167, u 168, u 169, u 170, u 171, u 172, u 173, u 174, u 175, u 176, u 177, u 178, u 179, u 180, u 181, u 182, u 183, u 184, u 185, u 186, u 187, u 188, u 189, u 190, u 191, u 192, u 193, u 194, u 195, u 196, u 197, u 198, u 199, u 200, u 201, u 202, u 203, u 204, u 205, u 206, u 207, u 208, u 209, u 210, u 211, u 212, u 213, u 214, u 215, u 216, u 217, u 218, u 219, u 220, u 221, u 222, u 223, u 224, u 225], defers := [] } := by
 obtain ⟨hd, hs, h0, h1, h2, h3, h4, h5, h6⟩ := h
 obtain ⟨tm, df⟩ := a
 simp only at *
 subst hd
 have key : ∃ u : Nat → Value, tm = #[u 0, u 1, u 2, u 3, u 4, u 5, u 6, u 7, u 8, u 9, u 10, u 11, u 12, u 13, u 14, u 15, u 16, u 17, u 18, u 19, u 20, u 21, u 22, u 23, u 24, u 25, u 26, u 27, u 28, u 29, u 30, u 31, u 32, u 33, u 34, u 35, u 36, u 37, u 38, u 39, u 40, u 41, u 42, u 43, u 44, u 45, u 46, u 47, u 48, u 49, u 50, u 51, u 52, u 53, u 54, u 55, u 56, u 57, u 58, u 59, u 60, u 61, u 62, u 63, u 64, u 65, u 66, u 67, u 68, u 69, u 70, u 71, u 72, u 73, u 74, u 75, u 76, u 77, u 78, u 79, u 80, u 81, u 82, u 83, u 84, u 85, u 86, u 87, u 88, u 89, u 90, u 91, u 92, u 93, u 94, u 95, u 96, u 97, u 98, u 99, u 100, u 101, u 102, u 103, u 104, u 105, u 106, u 107, u 108, u 109, u 110, u 111, u 112, u 113, u 114, u 115, u 116, u 117, u 118, u 119, u 120, u 121, u 122, u 123, u 124, u 125, u 126, u 127, u 128, u 129, u 130, u 131, u 132, u 133, u 134, u 135, u 136, u 137, u 138, u 139, u 140, u 141, u 142, u 143, u 144, u 145, u 146, u 147, u 148, u 149, u 150, u 151, u 152, u 153, u 154, u 155, u 156, u 157, u 158, u 159, u 160, u 161, u 162, u 163, u 164, u 165, u 166, u 167, u 168, u 169, u 170, u 171, u 172, u 173, u 174, u 175, u 176, u 177, u 178, u 179, u 180, u 181, u 182, u 183, u 184, u 185, u 186, u 187, u 188, u 189, u 190, u 191, u 192, u 193, u 194, u 195, u 196, u 197, u 198, u 199, u 200, u 201, u 202, u 203, u 204, u 205, u 206, u 207, u 208, u 209, u 210, u 211, u 212, u 213, u 214, u 215, u 216, u 217, u 218, u 219, u 220, u 221, u 222, u 223, u 224, u 225] := by
  refine ⟨fun i => tm.getD i undef, ?_⟩
  apply Array.toList_inj.1
  have e : tm.toList = (List.range 226).map fun i => tm.getD i undef := List.ext_getElem (by simp [hs]) fun i a b => by
   have hi : i < tm.size := by simpa using a
   simp [hi]
  rw [e]
  rfl
 obtain ⟨u, rfl⟩ := key
 refine ⟨u, ?_⟩
 obtain rfl : u 0 = v0 := Option.some.inj h0
 obtain rfl : u 1 = v1 := Option.some.inj h1
 obtain rfl : u 2 = v2 := Option.some.inj h2
 obtain rfl : u 3 = v3 := Option.some.inj h3
 obtain rfl : u 4 = v4 := Option.some.inj h4
 obtain rfl : u 5 = v5 := Option.some.inj h5
 obtain rfl : u 6 = v6 := Option.some.inj h6
 rfl
theorem push_cells {F : Fix} {w : World} {cs : Array Value} {pv : Value} {l : List Nat} {ths : List Value} {P0 : List Nat} (h : MS F.w0 w F.B F.bM F.bP F.qo F.n F.s F.d F.cm cs pv l ths P0) {pc : Nat} (hp : pc < F.n) (hl : l.length < F.n) :
  ((w.setCell ⟨F.bM, F.qo + 1, none⟩ (.slice (some ⟨F.d, 0, none⟩) (l.length + 1) F.n)).cell? ⟨F.bM, F.qo + 1, none⟩ = some (.slice (some ⟨F.d, 0, none⟩) (l.length + 1) F.n) ∧
   (∃ v, (w.setCell ⟨F.bM, F.qo + 1, none⟩ (.slice (some ⟨F.d, 0, none⟩) (l.length + 1) F.n)).cell? ⟨F.d, l.length * 2 + 1, none⟩ = some v) ∧ (w.setCell ⟨F.bM, F.qo + 1, none⟩ (.slice (some ⟨F.d, 0, none⟩) (l.length + 1) F.n)).frozen? ⟨F.d, l.length * 2 + 1, none⟩ = false) ∧
  ((∃ v, ((w.setCell ⟨F.bM, F.qo + 1, none⟩ (.slice (some ⟨F.d, 0, none⟩) (l.length + 1) F.n)).setCell ⟨F.d, l.length * 2 + 1, none⟩ (.pointer none)).cell? ⟨F.d, l.length * 2, none⟩ = some v) ∧ ((w.setCell ⟨F.bM, F.qo + 1, none⟩ (.slice (some ⟨F.d, 0, none⟩) (l.length + 1) F.n)).setCell ⟨F.d, l.length * 2 + 1, none⟩ (.pointer none)).frozen? ⟨F.d, l.length * 2, none⟩ = false) ∧
  ((((w.setCell ⟨F.bM, F.qo + 1, none⟩ (.slice (some ⟨F.d, 0, none⟩) (l.length + 1) F.n)).setCell ⟨F.d, l.length * 2 + 1, none⟩ (.pointer none)).setCell ⟨F.d, l.length * 2, none⟩ (.int .u32 pc)).cell? ⟨F.bM, F.qo, none⟩ = some (.slice (some ⟨F.s, 0, none⟩) F.n F.n) ∧
   (∃ v, (((w.setCell ⟨F.bM, F.qo + 1, none⟩ (.slice (some ⟨F.d, 0, none⟩) (l.length + 1) F.n)).setCell ⟨F.d, l.length * 2 + 1, none⟩ (.pointer none)).setCell ⟨F.d, l.length * 2, none⟩ (.int .u32 pc)).cell? ⟨F.s, pc, none⟩ = some v) ∧ (((w.setCell ⟨F.bM, F.qo + 1, none⟩ (.slice (some ⟨F.d, 0, none⟩) (l.length + 1) F.n)).setCell ⟨F.d, l.length * 2 + 1, none⟩ (.pointer none)).setCell ⟨F.d, l.length * 2, none⟩ (.int .u32 pc)).frozen? ⟨F.s, pc, none⟩ = false) := by
 have hne := h.sne
 have hqo := h.qo
 have hsz := h.sz
 have hqn := h.q.ne
 obtain ⟨S, s0, s1, s2, _⟩ := h.q.sp
 obtain ⟨E, d0, d1, _⟩ := h.q.de
 obtain ⟨x, hx, _⟩ := s2 pc hp
 have m1 := heap_setCell_same w F.bM (F.qo + 1) _ _ (.slice (some ⟨F.d, 0, none⟩) (l.length + 1) F.n) h.blk
 have m2 := Mem.blk_set_ne m1 (p := ⟨F.d, l.length * 2 + 1, none⟩) (fun e => hne.2 (by have e : F.bM = F.d := e; exact e.symm)) (.pointer none)
 have m3 := Mem.blk_set_ne m2 (p := ⟨F.d, l.length * 2, none⟩) (fun e => hne.2 (by have e : F.bM = F.d := e; exact e.symm)) (.int .u32 pc)
 have d1' := Mem.blk_set_ne d0 (p := ⟨F.bM, F.qo + 1, none⟩) hne.2 (.slice (some ⟨F.d, 0, none⟩) (l.length + 1) F.n)
 have d2' := heap_setCell_same _ F.d (l.length * 2 + 1) _ _ (.pointer none) d1'
 have s1' := Mem.blk_set_ne s0 (p := ⟨F.bM, F.qo + 1, none⟩) hne.1 (.slice (some ⟨F.d, 0, none⟩) (l.length + 1) F.n)
 have s2' := Mem.blk_set_ne s1' (p := ⟨F.d, l.length * 2 + 1, none⟩) hqn (.pointer none)
 have s3' := Mem.blk_set_ne s2' (p := ⟨F.d, l.length * 2, none⟩) hqn (.int .u32 pc)
 refine ⟨⟨cell_at m1 ?_, ⟨E[l.length * 2 + 1]'(by omega), cell_at d1' (Array.getElem?_eq_getElem (by omega))⟩, fz_at d1' _⟩, ⟨⟨(E.setIfInBounds (l.length * 2 + 1) (.pointer none))[l.length * 2]'(by simp; omega), cell_at d2' (Array.getElem?_eq_getElem (by simp; omega))⟩, fz_at d2' _⟩, cell_at m3 ?_, ⟨.int .u32 x, cell_at s3' hx⟩, fz_at s3' _⟩
 ·rw [Array.getElem?_setIfInBounds, if_pos rfl, if_pos (by omega)]
 ·rw [Array.getElem?_setIfInBounds, if_neg (by omega)]; exact h.fs
theorem PF.cells4 {w0 w : World} {bP : Nat} {start ncap : Int} {vI : Value} {R : List Value} {K : List In} (h : PF w0 w bP start ncap vI R K) {g : Nat} {c : Nat} (hv : vI = .slice (some ⟨g, 0, none⟩) K.length c) {pc : Nat} (hp : pc < K.length) :
  w.cell? ⟨g, pc * 4, none⟩ = some (.int .u8 (inAt K pc).f0) ∧ w.cell? ⟨g, pc * 4 + 1, none⟩ = some (.int .u32 (inAt K pc).f1) ∧ w.cell? ⟨g, pc * 4 + 2, none⟩ = some (.int .u32 (inAt K pc).f2) ∧ w.cell? ⟨g, pc * 4 + 3, none⟩ = some (R.getD pc (.slice none 0 0)) := by
 subst hv
 obtain ⟨h0, h1, h2, h3⟩ := cellsK_at K R h.rl pc hp
 exact ⟨by rw [h.own.cellAt _ (by omega)]; exact h0, by rw [h.own.cellAt _ (by omega)]; exact h1, by rw [h.own.cellAt _ (by omega)]; exact h2, by rw [h.own.cellAt _ (by omega)]; exact h3⟩
theorem wait_no {I : In} (h : I.f0 = 0 ∨ I.f0 = 2 ∨ I.f0 = 6 ∨ I.f0 = 3 ∨ I.f0 = 5) : waitB I = false := by
 unfold waitB spec_progWaits.f
 rcases h with h | h | h | h | h <;> simp [h]
theorem wait_yes {I : In} (h : I.f0 ≠ 0 ∧ I.f0 ≠ 2 ∧ I.f0 ≠ 6 ∧ I.f0 ≠ 3 ∧ I.f0 ≠ 5) : waitB I = true := by
 unfold waitB spec_progWaits.f
 simp [h]
theorem Acc.step {F : Fix} {w w1 w2 : World} {cs cs' : Array Value} {pv' : Value} {l l' : List Nat} {ths ths2 : List Value} {P0 P : List Nat} {t0 t : Option Nat} (h : Acc F w cs l ths P0 t0 w1 cs' pv' l' ths2 P t) (hb : Below w1.heap.size w1 w2) : Acc F w cs l ths P0 t0 w2 cs' pv' l' ths2 P t :=
 ⟨h.ms.below hb, fun j a b => (h.ent j a b).keep fun b cs _ hc => by rw [hb.block _ (lt_of_block hc)]; exact hc, h.nd, h.sub, h.fr.trans (FrA.below (AV := AV P0 t0) hb) (fun x hx => Or.inl hx), h.csr, fun b hb' => by
  obtain ⟨⟨iv, A, c, ht⟩, hB⟩ := h.tth b hb'
  exact ⟨⟨iv, A, c, by rw [hb.block _ (lt_of_block ht)]; exact ht⟩, hB⟩, h.le, h.pre, h.tl, Nat.le_trans h.sz hb.size⟩
section
variable (F : Fix) (start : Nat) (ncap : Int) (cI : Nat) (R : List Value) (wb : World) (cond fl : Int) (bC : Nat) (pos : Int) (Ac : Option Addr) (cc : Nat)
set_option maxRecDepth 100000 in
set_option maxHeartbeats 16000000 in
theorem addm_c (S : SQ F.L ncap start) (hB : F.B = F.w0.heap.size) (hPF : PF wb F.w0 F.bP start ncap (.slice (some ⟨F.g, 0, none⟩) (F.L.map cvt).length cI) R (F.L.map cvt)) (hn : F.L.length ≤ F.n) (hn2 : F.n ≤ 1000000) (hcm : F.cm ≤ 1000000)
  (hmt : ∀ op, 0 < op → op < 64 → regexp_lazyFlag_match.f 10 fl op = some (bits .and .i64 cond op == op)) :
  ∀ (k : Nat) (l : List Nat) (pc : Nat) (l' : List Nat), addF k F.L cond l pc = some l' → Good F.L.length l → pc < F.L.length → ∀ (w : World) (cs : Array Value) (pv : Value) (ths : List Value) (P : List Nat) (t : Option Nat), MS F.w0 w F.B F.bM F.bP F.qo F.n F.s F.d F.cm cs pv l ths P → (AV P t).Nodup →
   (∀ b, t = some b → (∃ iv, TH w b iv) ∧ F.B ≤ b) → P.length ≤ 1000000 → w.heap[bC]? = some (.cells #[.int .u64 fl] 96 (0, 0)) →
   Calls Tryd.prog 60 #[.pointer (some ⟨F.bM, 0, none⟩), .pointer (some ⟨F.bM, F.qo, none⟩), .int .u32 (pc : Nat), .int .i64 pos, .slice Ac 0 cc, .pointer (some ⟨bC, 0, none⟩), tptr t] w
    fun e w' => ∃ cs' pv' ths2 P' t', e = .returned (tptr t') ∧ Acc F w cs l ths P t w' cs' pv' l' ths2 P' t' := by
 intro k
 induction k using Nat.strongRecOn with
 | _ k ih =>
  intro l pc l' hf hgd hpc w cs pv ths P t hM hN ht hPl hbC
  have IH := Lib.hid ih
  have HPF := Lib.hid hPF
  have HMT := Lib.hid hmt
  have HS := Lib.hid S
  have HM := Lib.hid hM; have HT := Lib.hid ht; have HBC := Lib.hid hbC
  have HA0 := Lib.hid (Acc.start hM hN ht)
  have HF0 := Lib.hid hf; have HG0 := Lib.hid hgd
  have hLl := S.len
  clear ih hPF hmt S hM ht hbC hf hgd hN
  go_enter Tryd.func60, Tryd.ntmps60
  go_wp2
  refine wp_scope_label_n 0 (fun n a' wr => ∃ (l1 : List Nat) (pc1 : Nat) (cs1 : Array Value) (pv1 : Value) (ths1 : List Value) (P1 : List Nat) (t1 : Option Nat), Fr7 a' (.pointer (some ⟨F.bM, 0, none⟩)) (.pointer (some ⟨F.bM, F.qo, none⟩)) (.int .u32 (pc1 : Nat)) (.int .i64 pos) (.slice Ac 0 cc) (.pointer (some ⟨bC, 0, none⟩)) (tptr t1) ∧ n ≤ k ∧ pc1 < F.L.length ∧ Hid (addF n F.L cond l1 pc1 = some l') ∧ Hid (Good F.L.length l1) ∧ Hid (Acc F w cs l ths P t wr cs1 pv1 l1 ths1 P1 t1)) rfl k ⟨l, pc, cs, pv, [], P, t, ⟨rfl, rfl, rfl, rfl, rfl, rfl, rfl, rfl, rfl⟩, Nat.le_refl _, hpc, HF0, HG0, HA0⟩ ?_
  clear HF0 HG0 HA0 hpc
  rintro n a' wr ⟨l1, pc1, cs1, pv1, ths1, P1, t1, hfr, hnk, hpc1, HF1, HG1, HA1⟩
  obtain ⟨u, rfl⟩ := hfr.form
  have hn0 : n ≠ 0 := fun e => by have := HF1.out; rw [e] at this; simp [addF] at this
  obtain ⟨n, rfl⟩ : ∃ n', n = n' + 1 := ⟨n - 1, by omega⟩
  have hll := HG1.out.len
  obtain ⟨x, hx32, hxs, hxz, hxd, hxm⟩ := HA1.out.ms.q.test (show pc1 < F.n by omega)
  have HN1 := Lib.hid (List.nodup_append.1 HA1.out.nd).1
  have ms1 := HA1.out.ms
  have k1 := cell_at ms1.blk ms1.f1
  have kq := cell_at ms1.blk ms1.fs
  have kd := cell_at ms1.blk ms1.fd
  have zd := fz_at ms1.blk (F.qo + 1)
  clear ms1
  by_cases hz : pc1 = 0
  ·have hf := HF1.out
   simp only [addF] at hf
   rw [if_pos (Or.inl hz)] at hf
   obtain rfl := Option.some.inj hf
   have hb0 : ((pc1 : Int) == 0) = true := by rw [hz]; rfl
   clear hf hz hxs hxz hxd hxm kq kd zd k1
   go_wp2
   simp only [Exit.jump]
   go_ret
   exact ⟨_, _, _, _, _, rfl, HA1.out⟩
  ·have hb0 : ((pc1 : Int) == 0) = false := by simp; omega
   have hwl : IntKind.u32.wrap (l1.length : Int) = (l1.length : Int) := by rw [IntKind.wrap_u32]; omega
   go_upto_region 4 with fail
   go_cut [49] (fun s49 wx => s49 = .bool (decide (pc1 ∈ l1)) ∧ wr = wx)
   case first =>
    by_cases hx1 : x < l1.length
    ·have hc := hxd hx1
     have b1 : decide ((x : Int) < (l1.length : Int)) = true := decide_eq_true (by omega)
     by_cases hx2 : l1.getD x 0 = pc1
     ·have hmem := hxm.2 ⟨hx1, hx2⟩
      rw [hx2] at hc
      have HD := Lib.hid (decide_eq_true hmem)
      clear hxm hxd hmem hx2
      go_wp2
      go_meet
      exact ⟨by rw [HD.out], rfl⟩
     ·have hmem : pc1 ∉ l1 := fun h => hx2 (hxm.1 h).2
      have b2 : (((l1.getD x 0 : Nat) : Int) == (pc1 : Int)) = false := by rw [beq_eq_false_iff_ne]; omega
      have HD := Lib.hid (decide_eq_false hmem)
      generalize l1.getD x 0 = y at *
      clear hxm hxd hmem hx2
      go_wp2
      go_meet
      exact ⟨by rw [HD.out], rfl⟩
    ·have hmem : pc1 ∉ l1 := fun h => hx1 (hxm.1 h).1
     have b1 : decide ((x : Int) < (l1.length : Int)) = false := decide_eq_false (by omega)
     have HD := Lib.hid (decide_eq_false hmem)
     clear hxm hxd hmem
     go_wp2
     go_meet
     exact ⟨by rw [HD.out], rfl⟩
   case rest =>
    obtain ⟨rfl, rfl⟩ := hcut
    have hf := HF1.out
    simp only [addF] at hf
    by_cases hm : pc1 ∈ l1
    ·rw [if_pos (Or.inr hm)] at hf
     obtain rfl := Option.some.inj hf
     rw [decide_eq_true hm]
     clear hf hxs hxz hxd hxm kq kd zd k1 hm
     go_wp2
     simp only [Exit.jump]
     go_ret
     exact ⟨_, _, _, _, _, rfl, HA1.out⟩
    ·rw [if_neg (fun h => h.elim hz hm)] at hf
     rw [decide_eq_false hm]
     have HF2 := Lib.hid hf
     have hl1n : l1.length < F.n := by
      have := (HG1.out.snoc hpc1 hm).len
      simp at this; omega
     obtain ⟨⟨a1, ⟨va, a2⟩, a3⟩, ⟨⟨vb, b1⟩, b2⟩, c1, ⟨vc, c2⟩, c3⟩ := push_cells HA1.out.ms (show pc1 < F.n by omega) hl1n
     obtain ⟨hms4, hfr4, hsz4⟩ := push_ms HA1.out.ms (by omega) (show pc1 < F.n by omega) hm hl1n
     have hac4 := fun hw => Acc.push HA1.out.ms HN1.out HA1.out.tth (by omega) (show pc1 < F.n by omega) hm hl1n hw
     unfold pushW at hms4 hfr4 hsz4 hac4
     have HMS4 := Lib.hid hms4; have HFR4 := Lib.hid hfr4; have HSZ4 := Lib.hid hsz4; have HAC4 := Lib.hid hac4
     have HG2 := Lib.hid (HG1.out.snoc hpc1 hm)
     clear hf hxd hxm hms4 hfr4 hsz4 hac4
     have A1 := Lib.hid a1; have A2 := Lib.hid a2; have A3 := Lib.hid a3; have B1 := Lib.hid b1; have B2 := Lib.hid b2; have C1 := Lib.hid c1; have C2 := Lib.hid c2; have C3 := Lib.hid c3
     clear a1 a2 a3 b1 b2 c1 c2 c3
     go_upto_region 8 with fail
     generalize wr.setCell ⟨F.bM, F.qo + 1, none⟩ (.slice (some ⟨F.d, 0, none⟩) (l1.length + 1) F.n) = w1 at *
     have a1 := A1.out; have a2 := A2.out; have a3 := A3.out
     clear k1 kq kd zd hxs hxz
     go_upto_region 10 with fail
     generalize w1.setCell ⟨F.d, l1.length * 2 + 1, none⟩ (.pointer none) = w2 at *
     have b1 := B1.out; have b2 := B2.out
     clear a1 a2 a3
     go_upto_region 11 with fail
     generalize w2.setCell ⟨F.d, l1.length * 2, none⟩ (.int .u32 (pc1 : Nat)) = w3 at *
     have c1 := C1.out; have c2 := C2.out; have c3 := C3.out
     clear b1 b2
     go_upto_region 12 with fail
     generalize w3.setCell ⟨F.s, pc1, none⟩ (.int .u32 (l1.length : Nat)) = w4 at *
     clear c1 c2 c3 A1 A2 A3 B1 B2 C1 C2 C3
     have hb4 : Below F.w0.heap.size F.w0 w4 := by rw [← hB]; exact HMS4.out.bel
     have HP4 := Lib.hid (HPF.out.below hb4)
     have k1 := cell_at HMS4.out.blk HMS4.out.f1
     have p0 : w4.cell? ⟨F.bP, 0, none⟩ = some (.slice (some ⟨F.g, 0, none⟩) F.L.length cI) := by
      have := cell_at HP4.out.blk (i := 0) rfl
      rw [List.length_map] at this
      exact this
     obtain ⟨e0, e1, e2, e3⟩ := HP4.out.cells4 rfl (pc := pc1) (by rw [List.length_map]; exact hpc1)
     rw [at_cvt hpc1] at e0 e1 e2
     rw [cvt0] at e0
     clear e3
     have hinst := HS.out.inst pc1 hpc1
     have hio := HS.out.out pc1 hpc1
     have hf2 := HF2.out
     have hwn := fun h => wait_no (I := inAt F.L pc1) h
     have hwy := fun h => wait_yes (I := inAt F.L pc1) h
     have hc1 := fun h => cvt1 (I := inAt F.L pc1) h
     obtain ⟨I, hI⟩ : ∃ I, inAt F.L pc1 = I := ⟨_, rfl⟩
     rw [hI] at e0 e1 e2 hinst hio hf2 hwn hwy hc1
     have HI := Lib.hid hI
     have HWI : Hid (waitB (inAt F.L pc1) = waitB I) := Lib.hid (by rw [hI])
     obtain ⟨op, f1, f2, rs⟩ := I
     simp only at e0 hio hf2 hwn hwy hc1
     have HIN := Lib.hid hinst
     have HWN := Lib.hid hwn; have HWY := Lib.hid hwy
     clear hI hb4 hinst HF2 hwn hwy
     have hHF4 : Hid (waitB (inAt F.L pc1) = false → Acc F w cs l ths P t w4 (cs1.setIfInBounds (F.qo + 1) (.slice (some ⟨F.d, 0, none⟩) (l1.length + 1) F.n)) pv1 (l1 ++ [pc1]) (ths1 ++ [.pointer none]) P1 t1) := Lib.hid fun hw => HA1.out.trans (HAC4.out hw)
     by_cases h5 : op = 5
     ·subst h5
      simp only [show ¬ (5 : Int) = 0 by decide, show ¬ ((5 : Int) = 2 ∨ (5 : Int) = 6) by decide, show ¬ (5 : Int) = 3 by decide, false_and, if_false] at hf2
      obtain rfl := Option.some.inj hf2
      have HACC := Lib.hid (hHF4.out (by rw [HWI.out]; exact HWN.out (by simp)))
      clear hf2 hio hc1 e1 e2
      go_wp2
      simp only [Exit.jump]
      go_ret
      exact ⟨_, _, _, _, _, rfl, HACC.out⟩
     by_cases h4 : op = 4
     ·subst h4
      have hww := HWY.out (by decide)
      simp only [show ¬ (4 : Int) = 0 by decide, show ¬ ((4 : Int) = 2 ∨ (4 : Int) = 6) by decide, show ¬ (4 : Int) = 3 by decide, false_and, if_false] at hf2
      obtain rfl := Option.some.inj hf2
      clear hf2 hio hc1
      have hlt0 := HA1.out.ms.q.lt
      have HLT := Lib.hid hlt0
      clear hlt0
      obtain ⟨ivd, hivd⟩ : ∃ iv : Addr, iv = ⟨F.g, pc1 * 4, none⟩ := ⟨_, rfl⟩
      cases t1 with
      | none =>
       have hav : AV P1 none = P1 := by simp [AV]
       have hnp := HN1.out
       rw [hav] at hnp
       have hpl1 : P1.length ≤ 1000000 := Nat.le_trans HA1.out.le hPl
       have CA := Lib.hid (alloc_c hcm ⟨F.g, pc1 * 4, none⟩ w4 _ pv1 P1 HMS4.out hnp hpl1)
       clear hnp e1 e2
       rw [show tptr none = Value.pointer none from rfl]
       go_upto_region 40 with (go_at_call 76; refine (Calls.mono CA.out ?_); rintro e w5 ⟨tb, cs5, pv5, P5, rfl, hm5, hT5, hB5, hsub5, hor5, hnd5, hfr5, hcs5, hle5, hsz5⟩; have HM5 := Lib.hid hm5; have HT5 := Lib.hid hT5; have HB5 := Lib.hid hB5; have HS5 := Lib.hid hsub5; have HO5 := Lib.hid hor5; have HN5 := Lib.hid hnd5; have HF5 := Lib.hid hfr5; have HC5 := Lib.hid hcs5; clear hm5 hT5 hB5 hsub5 hor5 hnd5 hfr5 hcs5)
       go_quiet (fail)
       have hbq : Below w5.heap.size w5 (w5.drewN nq) := Mem.below_drewN (Below.refl _ _) nq
       have HM6 := Lib.hid (HM5.out.below hbq)
       have HT6 : Hid (TH (w5.drewN nq) tb (some ⟨F.g, pc1 * 4, none⟩)) := Lib.hid HT5.out
       have HF6 := Lib.hid (FrA.below (s := F.s) (d := F.d) (AV := P1) hbq)
       have hsz6 : w4.heap.size ≤ (w5.drewN nq).heap.size := hsz5
       clear hbq hsz5 k1 p0 e0
       generalize w5.drewN nq = w6 at *
       obtain ⟨⟨vd, kd1⟩, zd1⟩ := HM6.out.q.dcell (j := l1.length) hl1n 1 (by omega)
       have HACC := Lib.hid (HA1.out.trans (Acc.wait (F := F) (w := wr) (cs := cs1) (l := l1) (P0 := P1) (t0 := none) HM6.out HLT.out HT6.out HB5.out HN5.out (fun x hx => Or.inl (by rw [hav]; exact HS5.out x hx)) (HO5.out.elim (fun h => Or.inl (by rw [hav]; exact h)) (fun h => Or.inr (by rw [← HSZ4.out]; exact h))) ((HFR4.out _).trans ((HF5.out.trans HF6.out (fun x hx => Or.inl hx)).mono (fun x hx => by rw [hav]; exact hx)) (fun x hx => Or.inl hx)) (fun i h6 hq => by rw [HC5.out i h6, Array.getElem?_setIfInBounds, if_neg (fun e => hq e.symm)]) hle5 (by rw [← HSZ4.out]; exact hsz6) (by rw [HWI.out]; exact hww)))
       go_wp2_with fail
       simp only [Exit.jump]
       go_ret
       exact ⟨_, _, _, _, none, rfl, HACC.out⟩
      | some tb =>
       have hav : AV P1 (some tb) = P1 ++ [tb] := by simp [AV]
       have hnp := HN1.out
       rw [hav] at hnp
       have HNP := Lib.hid hnp
       obtain ⟨⟨iv, A0, c0, hth⟩, hBt⟩ := HA1.out.tth tb rfl
       obtain ⟨Sx, sx0, _⟩ := HA1.out.ms.q.sp
       obtain ⟨Ex, dx0, _⟩ := HA1.out.ms.q.de
       have hth4 := HFR4.out [] tb _ _ hth (by decide) (ne_ty hth sx0 (by decide)) (ne_ty hth dx0 (by decide)) (by decide) (by simp)
       have hmt : tb ∉ P1 := fun h => (List.nodup_append.1 hnp).2.2 tb h tb (by simp) rfl
       obtain ⟨hm5, hT5⟩ := HMS4.out.thr ⟨A0, c0, hth4⟩ hmt hBt (some ⟨F.g, pc1 * 4, none⟩)
       have kt : w4.cell? ⟨tb, 0, none⟩ = some (.pointer iv) := cell_at hth4 rfl
       have zt := fz_at hth4 0
       have HF5 := Lib.hid (FrA.set (s := F.s) (d := F.d) (AV := P1 ++ [tb]) (p := ⟨tb, 0, none⟩) hth4 (Or.inr (Or.inr (Or.inr (Or.inr (by simp))))) (.pointer (some ⟨F.g, pc1 * 4, none⟩)))
       have hsz5 : w4.heap.size ≤ (w4.setCell ⟨tb, 0, none⟩ (.pointer (some ⟨F.g, pc1 * 4, none⟩))).heap.size := by simp
       have HM5 := Lib.hid hm5; have HT5 := Lib.hid hT5
       clear hnp hth sx0 dx0 hth4 hm5 hT5 hmt e1 e2
       rw [show tptr (some tb) = Value.pointer (some ⟨tb, 0, none⟩) from rfl]
       go_upto_region 40 with fail
       generalize w4.setCell ⟨tb, 0, none⟩ (.pointer (some ⟨F.g, pc1 * 4, none⟩)) = w5 at *
       clear kt zt
       go_quiet (fail)
       have hbq : Below w5.heap.size w5 (w5.drewN nq) := Mem.below_drewN (Below.refl _ _) nq
       have HM6 := Lib.hid (HM5.out.below hbq)
       have HT6 : Hid (TH (w5.drewN nq) tb (some ⟨F.g, pc1 * 4, none⟩)) := Lib.hid HT5.out
       have HF6 := Lib.hid (FrA.below (s := F.s) (d := F.d) (AV := P1 ++ [tb]) hbq)
       have hsz6 : w4.heap.size ≤ (w5.drewN nq).heap.size := hsz5
       clear hbq hsz5 k1 p0 e0
       generalize w5.drewN nq = w6 at *
       obtain ⟨⟨vd, kd1⟩, zd1⟩ := HM6.out.q.dcell (j := l1.length) hl1n 1 (by omega)
       have HACC := Lib.hid (HA1.out.trans (Acc.wait (F := F) (w := wr) (cs := cs1) (l := l1) (P0 := P1) (t0 := some tb) HM6.out HLT.out HT6.out hBt HNP.out (fun x hx => Or.inl (by rw [hav]; simp [hx])) (Or.inl (by rw [hav]; simp)) ((HFR4.out _).trans ((HF5.out.trans HF6.out (fun x hx => Or.inl hx)).mono (fun x hx => by rw [hav]; exact hx)) (fun x hx => Or.inl hx)) (fun i h6 hq => by rw [Array.getElem?_setIfInBounds, if_neg (fun e => hq e.symm)]) (Nat.le_refl _) (by rw [← HSZ4.out]; exact hsz6) (by rw [HWI.out]; exact hww)))
       go_wp2_with fail
       simp only [Exit.jump]
       go_ret
       exact ⟨_, _, _, _, none, rfl, HACC.out⟩
     obtain ⟨c1, c2, c3⟩ := hc1 ⟨h4, h5⟩
     rw [c1] at e1
     rw [c2] at e2
     clear c1 c2 c3 hc1
     by_cases h0 : op = 0
     ·subst h0
      obtain ⟨o1, rfl⟩ : ∃ o1 : Nat, f1 = o1 := ⟨f1.toNat, by omega⟩
      obtain ⟨o2, rfl⟩ : ∃ o2 : Nat, f2 = o2 := ⟨f2.toNat, by omega⟩
      have ho1 : o1 < F.L.length := by omega
      have ho2 : o2 < F.L.length := by omega
      rw [show IntKind.u32.wrap (o2 : Int) = (o2 : Int) by rw [IntKind.wrap_u32]; omega] at e2
      rw [if_pos rfl] at hf2
      obtain ⟨la, hfa, hfb⟩ := Option.bind_eq_some_iff.1 hf2
      rw [Int.toNat_natCast] at hfa hfb
      have hacc := hHF4.out (by rw [HWI.out]; exact HWN.out (by simp))
      have HACC := Lib.hid hacc
      have hbC4 := hacc.keepT HM.out HT.out HBC.out (by decide) (by decide) (by decide) (by decide) (by decide)
      have htl4 := hacc.le
      have CA : Hid _ := Lib.hid (IH.out n (by omega) (l1 ++ [pc1]) o1 la hfa HG2.out ho1 w4 _ pv1 ((ths ++ ths1) ++ [.pointer none]) P1 t1 HMS4.out HN1.out hacc.tth (by omega) hbC4)
      have HFB := Lib.hid hfb
      have HGA := Lib.hid (addF_good HS.out.out n _ _ la hfa HG2.out ho1)
      clear hacc hfa hfb hf2 hio hbC4
      go_upto_region 19 with (go_at_call 60; have X := CA.out; refine (Calls.mono X ?_); clear X; rintro e w5 ⟨cs5, pv5, ths5, P5, t5, rfl, hacc5⟩; have HAC5 := Lib.hid hacc5; clear hacc5)
      have hb5 : Below F.w0.heap.size F.w0 w5 := by rw [← hB]; exact HAC5.out.ms.bel
      obtain ⟨_, _, d2, _⟩ := (HPF.out.below hb5).cells4 rfl (pc := pc1) (by rw [List.length_map]; exact hpc1)
      have d2' : w5.cell? ⟨F.g, pc1 * 4 + 2, none⟩ = some (.int .u32 (o2 : Nat)) := by
       rw [d2, at_cvt hpc1, HI.out, (cvt1 (I := ⟨0, (o1 : Int), (o2 : Int), rs⟩) (show (0 : Int) ≠ 4 ∧ (0 : Int) ≠ 5 by decide)).2.1]
       simp only
       rw [show IntKind.u32.wrap (o2 : Int) = (o2 : Int) by rw [IntKind.wrap_u32]; omega]
      clear d2 hb5
      go_wp2_with fail
      go_step3
      exact ⟨rfl, n, by omega, la, o2, _, _, _, _, _, ⟨rfl, rfl, rfl, rfl, rfl, rfl, rfl, rfl, rfl⟩, by omega, ho2, HFB, HGA, Lib.hid (by have h5 := HAC5.out; rw [List.append_assoc] at h5; exact HACC.out.trans h5)⟩
     rw [if_neg h0] at hf2
     by_cases h26 : op = 2 ∨ op = 6
     ·obtain ⟨o1, rfl⟩ : ∃ o1 : Nat, f1 = o1 := ⟨f1.toNat, by omega⟩
      have ho1 : o1 < F.L.length := by omega
      rw [if_pos h26, Int.toNat_natCast] at hf2
      have HF3 := Lib.hid hf2
      have HACC := Lib.hid (hHF4.out (by rw [HWI.out]; exact HWN.out (by omega)))
      rcases h26 with h2 | h6
      ·subst h2
       have hin := HIN.out
       simp only [instB, instR, toB] at hin
       simp only [show ¬ ((2 : Int) = 4 ∨ (2 : Int) = 5) by decide, show ¬ (2 : Int) = 0 by decide, if_false, if_true, Bool.and_eq_true, decide_eq_true_eq] at hin
       have hn1 := HS.out.n1
       obtain ⟨o2, rfl⟩ : ∃ o2 : Nat, f2 = o2 := ⟨f2.toNat, by omega⟩
       have hw2 : IntKind.u32.wrap (o2 : Int) = (o2 : Int) := by rw [IntKind.wrap_u32]; omega
       rw [hw2] at e2
       have hneg : decide (wrap64 (o2 : Int) < 0) = false := decide_eq_false (by unfold wrap64; omega)
       clear hin hw2 hf2 hio
       go_wp2_with fail
       go_step3
       exact ⟨rfl, n, by omega, l1 ++ [pc1], o1, _, _, _, _, _, ⟨rfl, rfl, rfl, rfl, rfl, rfl, rfl, rfl, rfl⟩, by omega, ho1, HF3, HG2, HACC⟩
      ·subst h6
       clear hf2 hio
       go_wp2_with fail
       go_step3
       exact ⟨rfl, n, by omega, l1 ++ [pc1], o1, _, _, _, _, _, ⟨rfl, rfl, rfl, rfl, rfl, rfl, rfl, rfl, rfl⟩, by omega, ho1, HF3, HG2, HACC⟩
     rw [if_neg h26] at hf2
     by_cases h3 : op = 3
     ·subst h3
      obtain ⟨o1, rfl⟩ : ∃ o1 : Nat, f1 = o1 := ⟨f1.toNat, by omega⟩
      have ho1 : o1 < F.L.length := by omega
      have hin := HIN.out
      simp only [instB, instR, toB] at hin
      simp only [show ¬ ((3 : Int) = 4 ∨ (3 : Int) = 5) by decide, show ¬ (3 : Int) = 0 by decide, show ¬ (3 : Int) = 2 by decide, if_false, if_true, Bool.and_eq_true, decide_eq_true_eq] at hin
      have hmf := HMT.out f2 hin.2.1 hin.2.2
      have hw2 : IntKind.u32.wrap f2 = f2 := by rw [IntKind.wrap_u32]; omega
      have hw8 : IntKind.u8.wrap f2 = f2 := by rw [IntKind.wrap_u8]; omega
      rw [hw2] at e2
      have hacc := hHF4.out (by rw [HWI.out]; exact HWN.out (by simp))
      have HACC := Lib.hid hacc
      have hbC4 := hacc.keepT HM.out HT.out HBC.out (by decide) (by decide) (by decide) (by decide) (by decide)
      have kc : w4.cell? ⟨bC, 0, none⟩ = some (.int .u64 fl) := cell_at hbC4 rfl
      have CM : Hid (∀ W, Calls Tryd.prog 75 #[.int .u64 fl, .int .u8 f2] W fun e w' => e = .returned (.bool (bits .and .i64 cond f2 == f2)) ∧ ∃ q, w' = W.drewN q) := Lib.hid fun W => (regexp_lazyFlag_match.calls 10 fl f2 _ W hmf).mono fun e w' h => ⟨h.1, h.2.out⟩
      generalize (bits .and .i64 cond f2 == f2) = bm at *
      clear hin hmf hw2 hacc hbC4 hio
      go_upto_region 21 with fail
      go_region_held3 (fun w' => w'.cell? ⟨bC, 0, none⟩ = some (.int .u64 fl) ∧ w'.cell? ⟨F.g, pc1 * 4 + 2, none⟩ = some (.int .u32 f2)) (go_keep) ((go_at_call 75; refine (Calls.mono (CM.out _) ?_); rintro e w5 ⟨rfl, q5, rfl⟩))
      have HACD := Lib.hid (HACC.out.step (Mem.below_drewN (Below.refl w4.heap.size w4) (1 + q5)))
      have e1' : (w4.drewN (1 + q5)).cell? ⟨F.g, pc1 * 4 + 1, none⟩ = some (.int .u32 (o1 : Nat)) := e1
      clear e1 e2 kc k1 p0 e0
      generalize w4.drewN (1 + q5) = w6 at *
      cases bm with
      | true =>
       rw [if_pos (by simp), Int.toNat_natCast] at hf2
       have HF3 := Lib.hid hf2
       clear hf2
       go_wp2_with fail
       go_step3
       exact ⟨rfl, n, by omega, l1 ++ [pc1], o1, _, _, _, _, _, ⟨rfl, rfl, rfl, rfl, rfl, rfl, rfl, rfl, rfl⟩, by omega, ho1, HF3, HG2, HACD⟩
      | false =>
       rw [if_neg (fun h => by simp at h)] at hf2
       obtain rfl := Option.some.inj hf2
       clear hf2
       go_wp2_with fail
       simp only [Exit.jump]
       go_ret
       exact ⟨_, _, _, _, _, rfl, HACD.out⟩
     rw [if_neg (fun h => h3 h.1)] at hf2
     obtain rfl := Option.some.inj hf2
     have hww := HWY.out ⟨h0, fun e => h26 (Or.inl e), fun e => h26 (Or.inr e), h3, h5⟩
     have hop : op = 7 ∨ op = 8 ∨ op = 9 ∨ op = 10 := by
      have hin := HIN.out
      unfold instB instR at hin
      rw [if_neg (by simp only; omega)] at hin
      simp only [Bool.and_eq_true] at hin
      have hin := hin.2
      refine Decidable.byContradiction fun hn => ?_
      rw [if_neg h0, if_neg (fun e => h26 (Or.inl e)), if_neg h3, if_neg (fun e => h26 (Or.inr e)), if_neg (by omega), if_neg (by omega), if_neg (by omega), if_neg (by omega)] at hin
      simp at hin
     clear hf2 hio
     rcases hop with rfl | rfl | rfl | rfl
     ·have hlt0 := HA1.out.ms.q.lt
      have HLT := Lib.hid hlt0
      clear hlt0
      obtain ⟨ivd, hivd⟩ : ∃ iv : Addr, iv = ⟨F.g, pc1 * 4, none⟩ := ⟨_, rfl⟩
      cases t1 with
      | none =>
       have hav : AV P1 none = P1 := by simp [AV]
       have hnp := HN1.out
       rw [hav] at hnp
       have hpl1 : P1.length ≤ 1000000 := Nat.le_trans HA1.out.le hPl
       have CA := Lib.hid (alloc_c hcm ⟨F.g, pc1 * 4, none⟩ w4 _ pv1 P1 HMS4.out hnp hpl1)
       clear hnp e1 e2
       rw [show tptr none = Value.pointer none from rfl]
       go_upto_region 40 with (go_at_call 76; refine (Calls.mono CA.out ?_); rintro e w5 ⟨tb, cs5, pv5, P5, rfl, hm5, hT5, hB5, hsub5, hor5, hnd5, hfr5, hcs5, hle5, hsz5⟩; have HM5 := Lib.hid hm5; have HT5 := Lib.hid hT5; have HB5 := Lib.hid hB5; have HS5 := Lib.hid hsub5; have HO5 := Lib.hid hor5; have HN5 := Lib.hid hnd5; have HF5 := Lib.hid hfr5; have HC5 := Lib.hid hcs5; clear hm5 hT5 hB5 hsub5 hor5 hnd5 hfr5 hcs5)
       go_quiet (fail)
       have hbq : Below w5.heap.size w5 (w5.drewN nq) := Mem.below_drewN (Below.refl _ _) nq
       have HM6 := Lib.hid (HM5.out.below hbq)
       have HT6 : Hid (TH (w5.drewN nq) tb (some ⟨F.g, pc1 * 4, none⟩)) := Lib.hid HT5.out
       have HF6 := Lib.hid (FrA.below (s := F.s) (d := F.d) (AV := P1) hbq)
       have hsz6 : w4.heap.size ≤ (w5.drewN nq).heap.size := hsz5
       clear hbq hsz5 k1 p0 e0
       generalize w5.drewN nq = w6 at *
       obtain ⟨⟨vd, kd1⟩, zd1⟩ := HM6.out.q.dcell (j := l1.length) hl1n 1 (by omega)
       have HACC := Lib.hid (HA1.out.trans (Acc.wait (F := F) (w := wr) (cs := cs1) (l := l1) (P0 := P1) (t0 := none) HM6.out HLT.out HT6.out HB5.out HN5.out (fun x hx => Or.inl (by rw [hav]; exact HS5.out x hx)) (HO5.out.elim (fun h => Or.inl (by rw [hav]; exact h)) (fun h => Or.inr (by rw [← HSZ4.out]; exact h))) ((HFR4.out _).trans ((HF5.out.trans HF6.out (fun x hx => Or.inl hx)).mono (fun x hx => by rw [hav]; exact hx)) (fun x hx => Or.inl hx)) (fun i h6 hq => by rw [HC5.out i h6, Array.getElem?_setIfInBounds, if_neg (fun e => hq e.symm)]) hle5 (by rw [← HSZ4.out]; exact hsz6) (by rw [HWI.out]; exact hww)))
       go_wp2_with fail
       simp only [Exit.jump]
       go_ret
       exact ⟨_, _, _, _, none, rfl, HACC.out⟩
      | some tb =>
       have hav : AV P1 (some tb) = P1 ++ [tb] := by simp [AV]
       have hnp := HN1.out
       rw [hav] at hnp
       have HNP := Lib.hid hnp
       obtain ⟨⟨iv, A0, c0, hth⟩, hBt⟩ := HA1.out.tth tb rfl
       obtain ⟨Sx, sx0, _⟩ := HA1.out.ms.q.sp
       obtain ⟨Ex, dx0, _⟩ := HA1.out.ms.q.de
       have hth4 := HFR4.out [] tb _ _ hth (by decide) (ne_ty hth sx0 (by decide)) (ne_ty hth dx0 (by decide)) (by decide) (by simp)
       have hmt : tb ∉ P1 := fun h => (List.nodup_append.1 hnp).2.2 tb h tb (by simp) rfl
       obtain ⟨hm5, hT5⟩ := HMS4.out.thr ⟨A0, c0, hth4⟩ hmt hBt (some ⟨F.g, pc1 * 4, none⟩)
       have kt : w4.cell? ⟨tb, 0, none⟩ = some (.pointer iv) := cell_at hth4 rfl
       have zt := fz_at hth4 0
       have HF5 := Lib.hid (FrA.set (s := F.s) (d := F.d) (AV := P1 ++ [tb]) (p := ⟨tb, 0, none⟩) hth4 (Or.inr (Or.inr (Or.inr (Or.inr (by simp))))) (.pointer (some ⟨F.g, pc1 * 4, none⟩)))
       have hsz5 : w4.heap.size ≤ (w4.setCell ⟨tb, 0, none⟩ (.pointer (some ⟨F.g, pc1 * 4, none⟩))).heap.size := by simp
       have HM5 := Lib.hid hm5; have HT5 := Lib.hid hT5
       clear hnp hth sx0 dx0 hth4 hm5 hT5 hmt e1 e2
       rw [show tptr (some tb) = Value.pointer (some ⟨tb, 0, none⟩) from rfl]
       go_upto_region 40 with fail
       generalize w4.setCell ⟨tb, 0, none⟩ (.pointer (some ⟨F.g, pc1 * 4, none⟩)) = w5 at *
       clear kt zt
       go_quiet (fail)
       have hbq : Below w5.heap.size w5 (w5.drewN nq) := Mem.below_drewN (Below.refl _ _) nq
       have HM6 := Lib.hid (HM5.out.below hbq)
       have HT6 : Hid (TH (w5.drewN nq) tb (some ⟨F.g, pc1 * 4, none⟩)) := Lib.hid HT5.out
       have HF6 := Lib.hid (FrA.below (s := F.s) (d := F.d) (AV := P1 ++ [tb]) hbq)
       have hsz6 : w4.heap.size ≤ (w5.drewN nq).heap.size := hsz5
       clear hbq hsz5 k1 p0 e0
       generalize w5.drewN nq = w6 at *
       obtain ⟨⟨vd, kd1⟩, zd1⟩ := HM6.out.q.dcell (j := l1.length) hl1n 1 (by omega)
       have HACC := Lib.hid (HA1.out.trans (Acc.wait (F := F) (w := wr) (cs := cs1) (l := l1) (P0 := P1) (t0 := some tb) HM6.out HLT.out HT6.out hBt HNP.out (fun x hx => Or.inl (by rw [hav]; simp [hx])) (Or.inl (by rw [hav]; simp)) ((HFR4.out _).trans ((HF5.out.trans HF6.out (fun x hx => Or.inl hx)).mono (fun x hx => by rw [hav]; exact hx)) (fun x hx => Or.inl hx)) (fun i h6 hq => by rw [Array.getElem?_setIfInBounds, if_neg (fun e => hq e.symm)]) (Nat.le_refl _) (by rw [← HSZ4.out]; exact hsz6) (by rw [HWI.out]; exact hww)))
       go_wp2_with fail
       simp only [Exit.jump]
       go_ret
       exact ⟨_, _, _, _, none, rfl, HACC.out⟩
     ·have hlt0 := HA1.out.ms.q.lt
      have HLT := Lib.hid hlt0
      clear hlt0
      obtain ⟨ivd, hivd⟩ : ∃ iv : Addr, iv = ⟨F.g, pc1 * 4, none⟩ := ⟨_, rfl⟩
      cases t1 with
      | none =>
       have hav : AV P1 none = P1 := by simp [AV]
       have hnp := HN1.out
       rw [hav] at hnp
       have hpl1 : P1.length ≤ 1000000 := Nat.le_trans HA1.out.le hPl
       have CA := Lib.hid (alloc_c hcm ⟨F.g, pc1 * 4, none⟩ w4 _ pv1 P1 HMS4.out hnp hpl1)
       clear hnp e1 e2
       rw [show tptr none = Value.pointer none from rfl]
       go_upto_region 40 with (go_at_call 76; refine (Calls.mono CA.out ?_); rintro e w5 ⟨tb, cs5, pv5, P5, rfl, hm5, hT5, hB5, hsub5, hor5, hnd5, hfr5, hcs5, hle5, hsz5⟩; have HM5 := Lib.hid hm5; have HT5 := Lib.hid hT5; have HB5 := Lib.hid hB5; have HS5 := Lib.hid hsub5; have HO5 := Lib.hid hor5; have HN5 := Lib.hid hnd5; have HF5 := Lib.hid hfr5; have HC5 := Lib.hid hcs5; clear hm5 hT5 hB5 hsub5 hor5 hnd5 hfr5 hcs5)
       go_quiet (fail)
       have hbq : Below w5.heap.size w5 (w5.drewN nq) := Mem.below_drewN (Below.refl _ _) nq
       have HM6 := Lib.hid (HM5.out.below hbq)
       have HT6 : Hid (TH (w5.drewN nq) tb (some ⟨F.g, pc1 * 4, none⟩)) := Lib.hid HT5.out
       have HF6 := Lib.hid (FrA.below (s := F.s) (d := F.d) (AV := P1) hbq)
       have hsz6 : w4.heap.size ≤ (w5.drewN nq).heap.size := hsz5
       clear hbq hsz5 k1 p0 e0
       generalize w5.drewN nq = w6 at *
       obtain ⟨⟨vd, kd1⟩, zd1⟩ := HM6.out.q.dcell (j := l1.length) hl1n 1 (by omega)
       have HACC := Lib.hid (HA1.out.trans (Acc.wait (F := F) (w := wr) (cs := cs1) (l := l1) (P0 := P1) (t0 := none) HM6.out HLT.out HT6.out HB5.out HN5.out (fun x hx => Or.inl (by rw [hav]; exact HS5.out x hx)) (HO5.out.elim (fun h => Or.inl (by rw [hav]; exact h)) (fun h => Or.inr (by rw [← HSZ4.out]; exact h))) ((HFR4.out _).trans ((HF5.out.trans HF6.out (fun x hx => Or.inl hx)).mono (fun x hx => by rw [hav]; exact hx)) (fun x hx => Or.inl hx)) (fun i h6 hq => by rw [HC5.out i h6, Array.getElem?_setIfInBounds, if_neg (fun e => hq e.symm)]) hle5 (by rw [← HSZ4.out]; exact hsz6) (by rw [HWI.out]; exact hww)))
       go_wp2_with fail
       simp only [Exit.jump]
       go_ret
       exact ⟨_, _, _, _, none, rfl, HACC.out⟩
      | some tb =>
       have hav : AV P1 (some tb) = P1 ++ [tb] := by simp [AV]
       have hnp := HN1.out
       rw [hav] at hnp
       have HNP := Lib.hid hnp
       obtain ⟨⟨iv, A0, c0, hth⟩, hBt⟩ := HA1.out.tth tb rfl
       obtain ⟨Sx, sx0, _⟩ := HA1.out.ms.q.sp
       obtain ⟨Ex, dx0, _⟩ := HA1.out.ms.q.de
       have hth4 := HFR4.out [] tb _ _ hth (by decide) (ne_ty hth sx0 (by decide)) (ne_ty hth dx0 (by decide)) (by decide) (by simp)
       have hmt : tb ∉ P1 := fun h => (List.nodup_append.1 hnp).2.2 tb h tb (by simp) rfl
       obtain ⟨hm5, hT5⟩ := HMS4.out.thr ⟨A0, c0, hth4⟩ hmt hBt (some ⟨F.g, pc1 * 4, none⟩)
       have kt : w4.cell? ⟨tb, 0, none⟩ = some (.pointer iv) := cell_at hth4 rfl
       have zt := fz_at hth4 0
       have HF5 := Lib.hid (FrA.set (s := F.s) (d := F.d) (AV := P1 ++ [tb]) (p := ⟨tb, 0, none⟩) hth4 (Or.inr (Or.inr (Or.inr (Or.inr (by simp))))) (.pointer (some ⟨F.g, pc1 * 4, none⟩)))
       have hsz5 : w4.heap.size ≤ (w4.setCell ⟨tb, 0, none⟩ (.pointer (some ⟨F.g, pc1 * 4, none⟩))).heap.size := by simp
       have HM5 := Lib.hid hm5; have HT5 := Lib.hid hT5
       clear hnp hth sx0 dx0 hth4 hm5 hT5 hmt e1 e2
       rw [show tptr (some tb) = Value.pointer (some ⟨tb, 0, none⟩) from rfl]
       go_upto_region 40 with fail
       generalize w4.setCell ⟨tb, 0, none⟩ (.pointer (some ⟨F.g, pc1 * 4, none⟩)) = w5 at *
       clear kt zt
       go_quiet (fail)
       have hbq : Below w5.heap.size w5 (w5.drewN nq) := Mem.below_drewN (Below.refl _ _) nq
       have HM6 := Lib.hid (HM5.out.below hbq)
       have HT6 : Hid (TH (w5.drewN nq) tb (some ⟨F.g, pc1 * 4, none⟩)) := Lib.hid HT5.out
       have HF6 := Lib.hid (FrA.below (s := F.s) (d := F.d) (AV := P1 ++ [tb]) hbq)
       have hsz6 : w4.heap.size ≤ (w5.drewN nq).heap.size := hsz5
       clear hbq hsz5 k1 p0 e0
       generalize w5.drewN nq = w6 at *
       obtain ⟨⟨vd, kd1⟩, zd1⟩ := HM6.out.q.dcell (j := l1.length) hl1n 1 (by omega)
       have HACC := Lib.hid (HA1.out.trans (Acc.wait (F := F) (w := wr) (cs := cs1) (l := l1) (P0 := P1) (t0 := some tb) HM6.out HLT.out HT6.out hBt HNP.out (fun x hx => Or.inl (by rw [hav]; simp [hx])) (Or.inl (by rw [hav]; simp)) ((HFR4.out _).trans ((HF5.out.trans HF6.out (fun x hx => Or.inl hx)).mono (fun x hx => by rw [hav]; exact hx)) (fun x hx => Or.inl hx)) (fun i h6 hq => by rw [Array.getElem?_setIfInBounds, if_neg (fun e => hq e.symm)]) (Nat.le_refl _) (by rw [← HSZ4.out]; exact hsz6) (by rw [HWI.out]; exact hww)))
       go_wp2_with fail
       simp only [Exit.jump]
       go_ret
       exact ⟨_, _, _, _, none, rfl, HACC.out⟩
     ·have hlt0 := HA1.out.ms.q.lt
      have HLT := Lib.hid hlt0
      clear hlt0
      obtain ⟨ivd, hivd⟩ : ∃ iv : Addr, iv = ⟨F.g, pc1 * 4, none⟩ := ⟨_, rfl⟩
      cases t1 with
      | none =>
       have hav : AV P1 none = P1 := by simp [AV]
       have hnp := HN1.out
       rw [hav] at hnp
       have hpl1 : P1.length ≤ 1000000 := Nat.le_trans HA1.out.le hPl
       have CA := Lib.hid (alloc_c hcm ⟨F.g, pc1 * 4, none⟩ w4 _ pv1 P1 HMS4.out hnp hpl1)
       clear hnp e1 e2
       rw [show tptr none = Value.pointer none from rfl]
       go_upto_region 40 with (go_at_call 76; refine (Calls.mono CA.out ?_); rintro e w5 ⟨tb, cs5, pv5, P5, rfl, hm5, hT5, hB5, hsub5, hor5, hnd5, hfr5, hcs5, hle5, hsz5⟩; have HM5 := Lib.hid hm5; have HT5 := Lib.hid hT5; have HB5 := Lib.hid hB5; have HS5 := Lib.hid hsub5; have HO5 := Lib.hid hor5; have HN5 := Lib.hid hnd5; have HF5 := Lib.hid hfr5; have HC5 := Lib.hid hcs5; clear hm5 hT5 hB5 hsub5 hor5 hnd5 hfr5 hcs5)
       go_quiet (fail)
       have hbq : Below w5.heap.size w5 (w5.drewN nq) := Mem.below_drewN (Below.refl _ _) nq
       have HM6 := Lib.hid (HM5.out.below hbq)
       have HT6 : Hid (TH (w5.drewN nq) tb (some ⟨F.g, pc1 * 4, none⟩)) := Lib.hid HT5.out
       have HF6 := Lib.hid (FrA.below (s := F.s) (d := F.d) (AV := P1) hbq)
       have hsz6 : w4.heap.size ≤ (w5.drewN nq).heap.size := hsz5
       clear hbq hsz5 k1 p0 e0
       generalize w5.drewN nq = w6 at *
       obtain ⟨⟨vd, kd1⟩, zd1⟩ := HM6.out.q.dcell (j := l1.length) hl1n 1 (by omega)
       have HACC := Lib.hid (HA1.out.trans (Acc.wait (F := F) (w := wr) (cs := cs1) (l := l1) (P0 := P1) (t0 := none) HM6.out HLT.out HT6.out HB5.out HN5.out (fun x hx => Or.inl (by rw [hav]; exact HS5.out x hx)) (HO5.out.elim (fun h => Or.inl (by rw [hav]; exact h)) (fun h => Or.inr (by rw [← HSZ4.out]; exact h))) ((HFR4.out _).trans ((HF5.out.trans HF6.out (fun x hx => Or.inl hx)).mono (fun x hx => by rw [hav]; exact hx)) (fun x hx => Or.inl hx)) (fun i h6 hq => by rw [HC5.out i h6, Array.getElem?_setIfInBounds, if_neg (fun e => hq e.symm)]) hle5 (by rw [← HSZ4.out]; exact hsz6) (by rw [HWI.out]; exact hww)))
       go_wp2_with fail
       simp only [Exit.jump]
       go_ret
       exact ⟨_, _, _, _, none, rfl, HACC.out⟩
      | some tb =>
       have hav : AV P1 (some tb) = P1 ++ [tb] := by simp [AV]
       have hnp := HN1.out
       rw [hav] at hnp
       have HNP := Lib.hid hnp
       obtain ⟨⟨iv, A0, c0, hth⟩, hBt⟩ := HA1.out.tth tb rfl
       obtain ⟨Sx, sx0, _⟩ := HA1.out.ms.q.sp
       obtain ⟨Ex, dx0, _⟩ := HA1.out.ms.q.de
       have hth4 := HFR4.out [] tb _ _ hth (by decide) (ne_ty hth sx0 (by decide)) (ne_ty hth dx0 (by decide)) (by decide) (by simp)
       have hmt : tb ∉ P1 := fun h => (List.nodup_append.1 hnp).2.2 tb h tb (by simp) rfl
       obtain ⟨hm5, hT5⟩ := HMS4.out.thr ⟨A0, c0, hth4⟩ hmt hBt (some ⟨F.g, pc1 * 4, none⟩)
       have kt : w4.cell? ⟨tb, 0, none⟩ = some (.pointer iv) := cell_at hth4 rfl
       have zt := fz_at hth4 0
       have HF5 := Lib.hid (FrA.set (s := F.s) (d := F.d) (AV := P1 ++ [tb]) (p := ⟨tb, 0, none⟩) hth4 (Or.inr (Or.inr (Or.inr (Or.inr (by simp))))) (.pointer (some ⟨F.g, pc1 * 4, none⟩)))
       have hsz5 : w4.heap.size ≤ (w4.setCell ⟨tb, 0, none⟩ (.pointer (some ⟨F.g, pc1 * 4, none⟩))).heap.size := by simp
       have HM5 := Lib.hid hm5; have HT5 := Lib.hid hT5
       clear hnp hth sx0 dx0 hth4 hm5 hT5 hmt e1 e2
       rw [show tptr (some tb) = Value.pointer (some ⟨tb, 0, none⟩) from rfl]
       go_upto_region 40 with fail
       generalize w4.setCell ⟨tb, 0, none⟩ (.pointer (some ⟨F.g, pc1 * 4, none⟩)) = w5 at *
       clear kt zt
       go_quiet (fail)
       have hbq : Below w5.heap.size w5 (w5.drewN nq) := Mem.below_drewN (Below.refl _ _) nq
       have HM6 := Lib.hid (HM5.out.below hbq)
       have HT6 : Hid (TH (w5.drewN nq) tb (some ⟨F.g, pc1 * 4, none⟩)) := Lib.hid HT5.out
       have HF6 := Lib.hid (FrA.below (s := F.s) (d := F.d) (AV := P1 ++ [tb]) hbq)
       have hsz6 : w4.heap.size ≤ (w5.drewN nq).heap.size := hsz5
       clear hbq hsz5 k1 p0 e0
       generalize w5.drewN nq = w6 at *
       obtain ⟨⟨vd, kd1⟩, zd1⟩ := HM6.out.q.dcell (j := l1.length) hl1n 1 (by omega)
       have HACC := Lib.hid (HA1.out.trans (Acc.wait (F := F) (w := wr) (cs := cs1) (l := l1) (P0 := P1) (t0 := some tb) HM6.out HLT.out HT6.out hBt HNP.out (fun x hx => Or.inl (by rw [hav]; simp [hx])) (Or.inl (by rw [hav]; simp)) ((HFR4.out _).trans ((HF5.out.trans HF6.out (fun x hx => Or.inl hx)).mono (fun x hx => by rw [hav]; exact hx)) (fun x hx => Or.inl hx)) (fun i h6 hq => by rw [Array.getElem?_setIfInBounds, if_neg (fun e => hq e.symm)]) (Nat.le_refl _) (by rw [← HSZ4.out]; exact hsz6) (by rw [HWI.out]; exact hww)))
       go_wp2_with fail
       simp only [Exit.jump]
       go_ret
       exact ⟨_, _, _, _, none, rfl, HACC.out⟩
     ·have hlt0 := HA1.out.ms.q.lt
      have HLT := Lib.hid hlt0
      clear hlt0
      obtain ⟨ivd, hivd⟩ : ∃ iv : Addr, iv = ⟨F.g, pc1 * 4, none⟩ := ⟨_, rfl⟩
      cases t1 with
      | none =>
       have hav : AV P1 none = P1 := by simp [AV]
       have hnp := HN1.out
       rw [hav] at hnp
       have hpl1 : P1.length ≤ 1000000 := Nat.le_trans HA1.out.le hPl
       have CA := Lib.hid (alloc_c hcm ⟨F.g, pc1 * 4, none⟩ w4 _ pv1 P1 HMS4.out hnp hpl1)
       clear hnp e1 e2
       rw [show tptr none = Value.pointer none from rfl]
       go_upto_region 40 with (go_at_call 76; refine (Calls.mono CA.out ?_); rintro e w5 ⟨tb, cs5, pv5, P5, rfl, hm5, hT5, hB5, hsub5, hor5, hnd5, hfr5, hcs5, hle5, hsz5⟩; have HM5 := Lib.hid hm5; have HT5 := Lib.hid hT5; have HB5 := Lib.hid hB5; have HS5 := Lib.hid hsub5; have HO5 := Lib.hid hor5; have HN5 := Lib.hid hnd5; have HF5 := Lib.hid hfr5; have HC5 := Lib.hid hcs5; clear hm5 hT5 hB5 hsub5 hor5 hnd5 hfr5 hcs5)
       go_quiet (fail)
       have hbq : Below w5.heap.size w5 (w5.drewN nq) := Mem.below_drewN (Below.refl _ _) nq
       have HM6 := Lib.hid (HM5.out.below hbq)
       have HT6 : Hid (TH (w5.drewN nq) tb (some ⟨F.g, pc1 * 4, none⟩)) := Lib.hid HT5.out
       have HF6 := Lib.hid (FrA.below (s := F.s) (d := F.d) (AV := P1) hbq)
       have hsz6 : w4.heap.size ≤ (w5.drewN nq).heap.size := hsz5
       clear hbq hsz5 k1 p0 e0
       generalize w5.drewN nq = w6 at *
       obtain ⟨⟨vd, kd1⟩, zd1⟩ := HM6.out.q.dcell (j := l1.length) hl1n 1 (by omega)
       have HACC := Lib.hid (HA1.out.trans (Acc.wait (F := F) (w := wr) (cs := cs1) (l := l1) (P0 := P1) (t0 := none) HM6.out HLT.out HT6.out HB5.out HN5.out (fun x hx => Or.inl (by rw [hav]; exact HS5.out x hx)) (HO5.out.elim (fun h => Or.inl (by rw [hav]; exact h)) (fun h => Or.inr (by rw [← HSZ4.out]; exact h))) ((HFR4.out _).trans ((HF5.out.trans HF6.out (fun x hx => Or.inl hx)).mono (fun x hx => by rw [hav]; exact hx)) (fun x hx => Or.inl hx)) (fun i h6 hq => by rw [HC5.out i h6, Array.getElem?_setIfInBounds, if_neg (fun e => hq e.symm)]) hle5 (by rw [← HSZ4.out]; exact hsz6) (by rw [HWI.out]; exact hww)))
       go_wp2_with fail
       simp only [Exit.jump]
       go_ret
       exact ⟨_, _, _, _, none, rfl, HACC.out⟩
      | some tb =>
       have hav : AV P1 (some tb) = P1 ++ [tb] := by simp [AV]
       have hnp := HN1.out
       rw [hav] at hnp
       have HNP := Lib.hid hnp
       obtain ⟨⟨iv, A0, c0, hth⟩, hBt⟩ := HA1.out.tth tb rfl
       obtain ⟨Sx, sx0, _⟩ := HA1.out.ms.q.sp
       obtain ⟨Ex, dx0, _⟩ := HA1.out.ms.q.de
       have hth4 := HFR4.out [] tb _ _ hth (by decide) (ne_ty hth sx0 (by decide)) (ne_ty hth dx0 (by decide)) (by decide) (by simp)
       have hmt : tb ∉ P1 := fun h => (List.nodup_append.1 hnp).2.2 tb h tb (by simp) rfl
       obtain ⟨hm5, hT5⟩ := HMS4.out.thr ⟨A0, c0, hth4⟩ hmt hBt (some ⟨F.g, pc1 * 4, none⟩)
       have kt : w4.cell? ⟨tb, 0, none⟩ = some (.pointer iv) := cell_at hth4 rfl
       have zt := fz_at hth4 0
       have HF5 := Lib.hid (FrA.set (s := F.s) (d := F.d) (AV := P1 ++ [tb]) (p := ⟨tb, 0, none⟩) hth4 (Or.inr (Or.inr (Or.inr (Or.inr (by simp))))) (.pointer (some ⟨F.g, pc1 * 4, none⟩)))
       have hsz5 : w4.heap.size ≤ (w4.setCell ⟨tb, 0, none⟩ (.pointer (some ⟨F.g, pc1 * 4, none⟩))).heap.size := by simp
       have HM5 := Lib.hid hm5; have HT5 := Lib.hid hT5
       clear hnp hth sx0 dx0 hth4 hm5 hT5 hmt e1 e2
       rw [show tptr (some tb) = Value.pointer (some ⟨tb, 0, none⟩) from rfl]
       go_upto_region 40 with fail
       generalize w4.setCell ⟨tb, 0, none⟩ (.pointer (some ⟨F.g, pc1 * 4, none⟩)) = w5 at *
       clear kt zt
       go_quiet (fail)
       have hbq : Below w5.heap.size w5 (w5.drewN nq) := Mem.below_drewN (Below.refl _ _) nq
       have HM6 := Lib.hid (HM5.out.below hbq)
       have HT6 : Hid (TH (w5.drewN nq) tb (some ⟨F.g, pc1 * 4, none⟩)) := Lib.hid HT5.out
       have HF6 := Lib.hid (FrA.below (s := F.s) (d := F.d) (AV := P1 ++ [tb]) hbq)
       have hsz6 : w4.heap.size ≤ (w5.drewN nq).heap.size := hsz5
       clear hbq hsz5 k1 p0 e0
       generalize w5.drewN nq = w6 at *
       obtain ⟨⟨vd, kd1⟩, zd1⟩ := HM6.out.q.dcell (j := l1.length) hl1n 1 (by omega)
       have HACC := Lib.hid (HA1.out.trans (Acc.wait (F := F) (w := wr) (cs := cs1) (l := l1) (P0 := P1) (t0 := some tb) HM6.out HLT.out HT6.out hBt HNP.out (fun x hx => Or.inl (by rw [hav]; simp [hx])) (Or.inl (by rw [hav]; simp)) ((HFR4.out _).trans ((HF5.out.trans HF6.out (fun x hx => Or.inl hx)).mono (fun x hx => by rw [hav]; exact hx)) (fun x hx => Or.inl hx)) (fun i h6 hq => by rw [Array.getElem?_setIfInBounds, if_neg (fun e => hq e.symm)]) (Nat.le_refl _) (by rw [← HSZ4.out]; exact hsz6) (by rw [HWI.out]; exact hww)))
       go_wp2_with fail
       simp only [Exit.jump]
       go_ret
       exact ⟨_, _, _, _, none, rfl, HACC.out⟩
end
end Go.Proofs.YtcncclglmgdinaaDoor.Ps
