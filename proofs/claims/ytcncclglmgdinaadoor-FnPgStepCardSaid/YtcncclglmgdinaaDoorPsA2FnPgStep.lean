/- The thin package's making of a program of the package: one instruction. The thin package's making of a program of the package: its rows. The thin package's making of a program of the package: the walk of 'progFor'. -/
import Derived.Test.YtcncclglmgdinaaDoorPsA1FnPgStep
import Derived.StillTailTactics
import Derived.Deep.Upon
import Derived.Deep.RegionHeld3
import Derived.Deep.Onto
import Derived.Test.YtcncclglmgdinaaDoorRegA
import Derived.Maps.AppendAt
import Derived.Test.YtcncclglmgdinaaDoorPsTFnPgStep
namespace Go.Proofs.YtcncclglmgdinaaDoor.Ps
open Go.RowKit Mem Go.Proofs.YtcncclglmgdinaaDoor.PFnPgStep Go.Proofs.YtcncclglmgdinaaDoorW.PrintWords Go.Proofs.YtcncclglmgdinaaDoorW.PrintLast Go.Proofs.YtcncclglmgdinaaDoorW.PrintMore
set_option linter.unusedVariables false
section
variable (A : Option Addr) (cap : Nat) (zs : List Int) (w : World) {B : Nat}
/-- 'append([]T(nil), x...)', the elements whole numbers: a copy in a row of the call's own. -/
theorem run_appnil {P : Program} {k : IntKind} (t ty : TypeId) (e : TypeId) (bytes : Nat) (ht : P.underlying t = some (.slice e)) (hi : (P.info? e).map (fun i => (i.zero, i.size, i.bytes)) = some (some (.int k 0), 1, bytes))
  (hz : IntsAt w B k A zs) (h63 : zs.length ≤ maxLen) (hbytes : zs.length * bytes ≤ 140737488355328) :
  ∃ A' c' w', (Builtin.append_ #[t, t] ty #[.slice none 0 0, .slice A zs.length cap]).run P w = .ok (.slice A' zs.length c') w' ∧ w'.ownsRow w.heap.size e 1 (.slice A' zs.length c') zs.length (zs.map (Value.int k)) ∧ Below w.heap.size w w' := by
 obtain ⟨i0, hi0, hz0, hz1, hz2⟩ := info_parts hi
 by_cases h0 : zs.length = 0
 ·have hzs : zs = [] := List.length_eq_zero_iff.mp h0
  subst hzs
  have hsrc : Src P i0.size t (.slice A 0 cap) 0 [] w := by
   cases A with
   | none => exact Src.ofNil w ht cap
   | some ad => exact Src.ofSlice w ht ad 0 cap [] (by simp) (by simp) (by simp)
  exact ⟨none, 0, w, run_append_nothing (P := P) w t t ty e i0 ht hi0 none 0 0 (Nat.le_refl _) _ hsrc, World.ownsRow_nil _ _ _ _, Below.refl _ _⟩
 ·obtain ⟨b, off, rfl, hb, hc⟩ := hz (by omega)
  obtain ⟨v', w', hr, ho', hg, -⟩ := run_append_own (P := P) w w.heap.size t ty e i0 (.int k 0) 1 bytes ht hi0 hz0 hz1 hz2 rfl (by omega) (.slice none 0 0) 0 [] (World.ownsRow_nil _ _ _ _) ⟨b, off, none⟩ zs.length cap (zs.map (Value.int k)) (by simp) (by
   intro j u hj
   have hj' : j < zs.length := by
    rcases Nat.lt_or_ge j zs.length with h | h
    ·exact h
    ·rw [List.getElem?_eq_none (by simpa using h)] at hj; cases hj
   rw [Addr.add_lit, hc j hj']
   simpa [List.getD_eq_getElem?_getD, List.getElem?_eq_getElem hj'] using hj) (by simp [Value.oneCell']) (by simpa using h63) (by simpa using hbytes) (Nat.le_refl _)
  simp only [Nat.zero_add, List.nil_append] at ho'
  have hl : 0 < zs.length := by omega
  obtain ⟨g, c', hv, hge, hlt⟩ := ho'.form hl
  subst hv
  exact ⟨_, _, w', hr, ho', (Below.refl _ _).grown hg (Nat.le_refl _) fun k hk => by simp [Value.ownBlock] at hk⟩
theorem step_appnil {P : Program} {ops : Array Oper} {o : Oper} {a : Act} {K : Act → World → Prop} {Q : Exit → Act → World → Prop} {E : Prop} {k : IntKind} (hgd : o.guard = none) (x : Operand) (t : TypeId)
  (ho : o.op = .call { callee := .builtin .append, args := #[.const (.slice none 0 0), x], argTypes := #[t, t] })
  (e : TypeId) (bytes : Nat) (ht : P.underlying t = some (.slice e)) (hi : (P.info? e).map (fun i => (i.zero, i.size, i.bytes)) = some (some (.int k 0), 1, bytes))
  (hx : a.eval x = .slice A zs.length cap) (hz : IntsAt w B k A zs) (h63 : zs.length ≤ maxLen) (hbytes : zs.length * bytes ≤ 140737488355328)
  (h : ∀ A' c' w', w'.ownsRow w.heap.size e 1 (.slice A' zs.length c') zs.length (zs.map (Value.int k)) → Below w.heap.size w w' → K (a.put o.dst (.slice A' zs.length c')) w') :
  if Region.wanted o (yielded ops a.tmps) = true then Oper.wp P o a w K Q else E := by
 have hw : Region.wanted o (yielded ops a.tmps) = true := by simp [Region.wanted, hgd]
 rw [if_pos hw]
 obtain ⟨A', c', w', hr, h1, h3⟩ := run_appnil A cap zs w (P := P) t o.type e bytes ht hi hz h63 hbytes
 have he : a.eval (.const (.slice none 0 0)) = .slice none 0 0 := rfl
 unfold Oper.wp execOp
 simp only [ho, resolve, invoke, builtin, Sem.run_bind, Sem.run_pure, Result.andThen_ok, List.map_toArray, List.map_cons, List.map_nil, he, hx, hr]
 exact h A' c' w' h1 h3
/-- What an instruction becomes. -/
def cvt (I : In) : In := if I.f0 = 4 ∨ I.f0 = 5 then ⟨I.f0, 0, 0, []⟩ else ⟨I.f0, I.f1, IntKind.u32.wrap I.f2, I.f3⟩
set_option maxRecDepth 100000 in
set_option maxHeartbeats 4000000 in
theorem instOf_c (op f1 f2 : Int) (h0 : 0 ≤ op) (h1 : op ≤ 255) (h2 : (op ≠ 4 ∧ op ≠ 5) → 0 ≤ f1 ∧ f1 ≤ 2147483647) (hm : zs.length ≤ 2147483647) (hz : IntsAt w B .i32 A zs) (hB : B ≤ w.heap.size) :
  Calls Tryd.prog 56 #[.agg #[.int .i64 op, .int .i64 f1, .int .i64 f2, .slice A zs.length cap]] w fun e w' => ∃ A' c', e = .returned (.agg #[.int .u8 op, .int .u32 (cvt ⟨op, f1, f2, zs⟩).f1, .int .u32 (cvt ⟨op, f1, f2, zs⟩).f2, .slice A' (cvt ⟨op, f1, f2, zs⟩).f3.length c']) ∧ w'.ownsRow w.heap.size 21 1 (.slice A' (cvt ⟨op, f1, f2, zs⟩).f3.length c') (cvt ⟨op, f1, f2, zs⟩).f3.length ((cvt ⟨op, f1, f2, zs⟩).f3.map (Value.int .i32)) ∧ Below w.heap.size w w' := by
 have hres : Tryd.f56.results = #[.cell 2 123] := by kernel_rfl
 by_cases h45 : op = 4 ∨ op = 5
 ·have hc : cvt ⟨op, f1, f2, zs⟩ = ⟨op, 0, 0, []⟩ := if_pos h45
  have HCV := Lib.hid hc
  have b4 : (op == 4 || op == 5) = true := by rcases h45 with h | h <;> simp [h]
  clear hc
  rcases h45 with rfl | rfl
  all_goals
   go_enter Tryd.func56, Tryd.ntmps56
   go_wp2
   refine bodyPost_ret (by simp [results, go_sem]; try rfl) rfl ?_
   rw [HCV.out]
   refine ⟨none, 0, rfl, World.ownsRow_nil _ _ _ _, ?_⟩
   first
   | exact ((((((Below.refl _ _).alloc (Nat.le_refl _) _).alloc (by simp) _).setCell (by simp) _).setCell (by simp) _).setCell (by simp) _).setCell (by simp) _
   | exact ((Below.refl _ _).alloc (Nat.le_refl _) _).alloc (by simp) _
 ·have hc : cvt ⟨op, f1, f2, zs⟩ = ⟨op, f1, IntKind.u32.wrap f2, zs⟩ := if_neg h45
  have HCV := Lib.hid hc
  obtain ⟨h3, h4⟩ := h2 (by omega)
  have b4 : (op == 4) = false := by rw [beq_eq_false_iff_ne]; omega
  have b5 : (op == 5) = false := by rw [beq_eq_false_iff_ne]; omega
  have hw0 : IntKind.u8.wrap op = op := by rw [IntKind.wrap_u8]; omega
  have hw1 : IntKind.u32.wrap f1 = f1 := by rw [IntKind.wrap_u32]; omega
  clear hc h45 h2
  rw [HCV.out]
  go_enter Tryd.func56, Tryd.ntmps56
  go_wp2_with fail
  have hbw : Below w.heap.size w ((w.alloc (.cells #[.int .i64 op, .int .i64 f1, .int .i64 f2, .slice A zs.length cap] 55)).alloc (.cells #[.int .u8 0, .int .u32 0, .int .u32 0, .slice none 0 0] 123)) := ((Below.refl _ _).alloc (Nat.le_refl _) _).alloc (by simp) _
  have c0 : ((w.alloc (.cells #[.int .i64 op, .int .i64 f1, .int .i64 f2, .slice A zs.length cap] 55)).alloc (.cells #[.int .u8 0, .int .u32 0, .int .u32 0, .slice none 0 0] 123)).cell? ⟨w.heap.size, 0, none⟩ = some (.int .i64 op) := by simp
  have c1 : ((w.alloc (.cells #[.int .i64 op, .int .i64 f1, .int .i64 f2, .slice A zs.length cap] 55)).alloc (.cells #[.int .u8 0, .int .u32 0, .int .u32 0, .slice none 0 0] 123)).cell? ⟨w.heap.size, 1, none⟩ = some (.int .i64 f1) := by simp
  have c2 : ((w.alloc (.cells #[.int .i64 op, .int .i64 f1, .int .i64 f2, .slice A zs.length cap] 55)).alloc (.cells #[.int .u8 0, .int .u32 0, .int .u32 0, .slice none 0 0] 123)).cell? ⟨w.heap.size, 2, none⟩ = some (.int .i64 f2) := by simp
  have c3 : ((w.alloc (.cells #[.int .i64 op, .int .i64 f1, .int .i64 f2, .slice A zs.length cap] 55)).alloc (.cells #[.int .u8 0, .int .u32 0, .int .u32 0, .slice none 0 0] 123)).cell? ⟨w.heap.size, 3, none⟩ = some (.slice A zs.length cap) := by simp
  have d0 : ((w.alloc (.cells #[.int .i64 op, .int .i64 f1, .int .i64 f2, .slice A zs.length cap] 55)).alloc (.cells #[.int .u8 0, .int .u32 0, .int .u32 0, .slice none 0 0] 123)).cell? ⟨w.heap.size + 1, 0, none⟩ = some (.int .u8 0) := by simp
  have f4 : ((w.alloc (.cells #[.int .i64 op, .int .i64 f1, .int .i64 f2, .slice A zs.length cap] 55)).alloc (.cells #[.int .u8 0, .int .u32 0, .int .u32 0, .slice none 0 0] 123)).frozen? ⟨w.heap.size + 1, 0, none⟩ = false := by simp
  have d1 : ((w.alloc (.cells #[.int .i64 op, .int .i64 f1, .int .i64 f2, .slice A zs.length cap] 55)).alloc (.cells #[.int .u8 0, .int .u32 0, .int .u32 0, .slice none 0 0] 123)).cell? ⟨w.heap.size + 1, 1, none⟩ = some (.int .u32 0) := by simp
  have f5 : ((w.alloc (.cells #[.int .i64 op, .int .i64 f1, .int .i64 f2, .slice A zs.length cap] 55)).alloc (.cells #[.int .u8 0, .int .u32 0, .int .u32 0, .slice none 0 0] 123)).frozen? ⟨w.heap.size + 1, 1, none⟩ = false := by simp
  have d2 : ((w.alloc (.cells #[.int .i64 op, .int .i64 f1, .int .i64 f2, .slice A zs.length cap] 55)).alloc (.cells #[.int .u8 0, .int .u32 0, .int .u32 0, .slice none 0 0] 123)).cell? ⟨w.heap.size + 1, 2, none⟩ = some (.int .u32 0) := by simp
  have f6 : ((w.alloc (.cells #[.int .i64 op, .int .i64 f1, .int .i64 f2, .slice A zs.length cap] 55)).alloc (.cells #[.int .u8 0, .int .u32 0, .int .u32 0, .slice none 0 0] 123)).frozen? ⟨w.heap.size + 1, 2, none⟩ = false := by simp
  have d3 : ((w.alloc (.cells #[.int .i64 op, .int .i64 f1, .int .i64 f2, .slice A zs.length cap] 55)).alloc (.cells #[.int .u8 0, .int .u32 0, .int .u32 0, .slice none 0 0] 123)).cell? ⟨w.heap.size + 1, 3, none⟩ = some (.slice none 0 0) := by simp
  have f7 : ((w.alloc (.cells #[.int .i64 op, .int .i64 f1, .int .i64 f2, .slice A zs.length cap] 55)).alloc (.cells #[.int .u8 0, .int .u32 0, .int .u32 0, .slice none 0 0] 123)).frozen? ⟨w.heap.size + 1, 3, none⟩ = false := by simp
  have hs : ((w.alloc (.cells #[.int .i64 op, .int .i64 f1, .int .i64 f2, .slice A zs.length cap] 55)).alloc (.cells #[.int .u8 0, .int .u32 0, .int .u32 0, .slice none 0 0] 123)).heap.size = w.heap.size + 2 := by simp
  generalize ((w.alloc (.cells #[.int .i64 op, .int .i64 f1, .int .i64 f2, .slice A zs.length cap] 55)).alloc (.cells #[.int .u8 0, .int .u32 0, .int .u32 0, .slice none 0 0] 123)) = W at *
  have HB := Lib.hid hbw; clear hbw
  have HZ := Lib.hid hz; clear hz
  go_region_held3 (fun w' => w'.cell? ⟨w.heap.size, 0, none⟩ = some (.int .i64 op) ∧ w'.cell? ⟨w.heap.size, 1, none⟩ = some (.int .i64 f1) ∧ w'.cell? ⟨w.heap.size, 2, none⟩ = some (.int .i64 f2) ∧ w'.cell? ⟨w.heap.size, 3, none⟩ = some (.slice A zs.length cap)) (go_keep)
   ((refine step_appnil A cap zs _ (B := B) (k := .i32) rfl (.tmp 25) 53 rfl 21 4 (by kernel_rfl) (by kernel_rfl) (by simp [Act.eval]) (IntsAt.drewN (HZ.out.below HB.out hB) 1) (by simp [maxLen]; omega) (by omega) ?_; intro A' c' w' hz' hb'; have e0 := (hb'.cell (p := ⟨w.heap.size + 1, 0, none⟩) (by show w.heap.size + 1 < W.heap.size; omega)).trans d0; have g0 := (hb'.frozen (p := ⟨w.heap.size + 1, 0, none⟩) (by show w.heap.size + 1 < W.heap.size; omega)).trans f4; have e1 := (hb'.cell (p := ⟨w.heap.size + 1, 1, none⟩) (by show w.heap.size + 1 < W.heap.size; omega)).trans d1; have g1 := (hb'.frozen (p := ⟨w.heap.size + 1, 1, none⟩) (by show w.heap.size + 1 < W.heap.size; omega)).trans f5; have e2 := (hb'.cell (p := ⟨w.heap.size + 1, 2, none⟩) (by show w.heap.size + 1 < W.heap.size; omega)).trans d2; have g2 := (hb'.frozen (p := ⟨w.heap.size + 1, 2, none⟩) (by show w.heap.size + 1 < W.heap.size; omega)).trans f6; have e3 := (hb'.cell (p := ⟨w.heap.size + 1, 3, none⟩) (by show w.heap.size + 1 < W.heap.size; omega)).trans d3; have g3 := (hb'.frozen (p := ⟨w.heap.size + 1, 3, none⟩) (by show w.heap.size + 1 < W.heap.size; omega)).trans f7; have k0 := (hb'.cell (p := ⟨w.heap.size, 0, none⟩) (by show w.heap.size < W.heap.size; omega)).trans c0; have k1 := (hb'.cell (p := ⟨w.heap.size, 1, none⟩) (by show w.heap.size < W.heap.size; omega)).trans c1; have k2 := (hb'.cell (p := ⟨w.heap.size, 2, none⟩) (by show w.heap.size < W.heap.size; omega)).trans c2; have k3 := (hb'.cell (p := ⟨w.heap.size, 3, none⟩) (by show w.heap.size < W.heap.size; omega)).trans c3; have HBP := Lib.hid hb'; clear hb'))
  go_wp2_with fail
  refine bodyPost_ret (by simp [results, go_sem, e0, e1, e2, e3]; try rfl) rfl ?_
  refine ⟨A', c', rfl, ?_, ?_⟩
  ·have hz2 : w'.ownsRow w.heap.size 21 1 (.slice A' zs.length c') zs.length (zs.map (Value.int .i32)) := hz'.mono (by show w.heap.size ≤ W.heap.size; omega)
   refine own_move hz2 fun b hb => ?_
   have hge := (World.ownsRow.lt hz' b hb).1
   have hge' : W.heap.size ≤ b := hge
   simp [World.setCell, Array.getElem?_modify, show w.heap.size + 1 ≠ b by omega]
  ·refine HB.out.trans (Below.trans (Below.mono (Mem.below_drewN (Below.refl _ _) 1) (Nat.le_refl _)) ?_)
   have hb2 : Below w.heap.size (W.drewN 1) w' := Below.mono HBP.out (by show w.heap.size ≤ W.heap.size; omega)
   exact ((((hb2.setCell (by simp) _).setCell (by simp) _).setCell (by simp) _).setCell (by simp) _)
end
end Go.Proofs.YtcncclglmgdinaaDoor.Ps
namespace Go.Proofs.YtcncclglmgdinaaDoor.Ps
open Go.RowKit Mem Go.Proofs.YtcncclglmgdinaaDoor.PFnPgStep Go.Proofs.YtcncclglmgdinaaDoorW.PrintWords Go.Proofs.YtcncclglmgdinaaDoorW.PrintLast Go.Proofs.YtcncclglmgdinaaDoorW.PrintMore
set_option linter.unusedVariables false
/-- The cells of a program's instructions; their characters lie in the rows told. -/
def cellsK : List In → List Value → List Value
 | I :: K, r :: R => .int .u8 I.f0 :: .int .u32 I.f1 :: .int .u32 I.f2 :: r :: cellsK K R
 | _, _ => []
theorem cellsK_len : ∀ (K : List In) (R : List Value), R.length = K.length → (cellsK K R).length = K.length * 4
 | [], [], _ => rfl
 | I :: K, r :: R, h => by
  have := cellsK_len K R (by simpa using h)
  simp only [cellsK, List.length_cons, this]; omega
 | [], r :: R, h => by simp at h
 | I :: K, [], h => by simp at h
theorem cellsK_snoc (I : In) (r : Value) : ∀ (K : List In) (R : List Value), R.length = K.length → cellsK (K ++ [I]) (R ++ [r]) = cellsK K R ++ [.int .u8 I.f0, .int .u32 I.f1, .int .u32 I.f2, r]
 | [], [], _ => rfl
 | J :: K, q :: R, h => by
  have := cellsK_snoc I r K R (by simpa using h)
  simp [cellsK, this]
 | [], r :: R, h => by simp at h
 | I :: K, [], h => by simp at h
theorem cellsK_at : ∀ (K : List In) (R : List Value), R.length = K.length → ∀ j, j < K.length →
  (cellsK K R)[j * 4]? = some (.int .u8 (inAt K j).f0) ∧ (cellsK K R)[j * 4 + 1]? = some (.int .u32 (inAt K j).f1) ∧ (cellsK K R)[j * 4 + 2]? = some (.int .u32 (inAt K j).f2) ∧ (cellsK K R)[j * 4 + 3]? = some (R.getD j (.slice none 0 0))
 | I :: K, r :: R, h, 0, _ => by simp [cellsK, inAt]
 | I :: K, r :: R, h, j + 1, hj => by
  have := cellsK_at K R (by simpa using h) j (by simpa using hj)
  simpa [cellsK, inAt, show (j + 1) * 4 = j * 4 + 1 + 1 + 1 + 1 by omega] using this
 | [], _, _, j, hj => by simp at hj
 | I :: K, [], h, _, _ => by simp at h
/-- A program of the package behind the pointer to bP. -/
structure PF (w0 w : World) (bP : Nat) (start ncap : Int) (vI : Value) (R : List Value) (K : List In) : Prop where
 blk : w.heap[bP]? = some (.cells #[vI, .int .i64 start, .int .i64 ncap] 119 (0, 0))
 own : w.ownsRow w0.heap.size 123 4 vI K.length (cellsK K R)
 rl : R.length = K.length
 rn : ∀ j, j < K.length → w.ownsRow w0.heap.size 21 1 (R.getD j (.slice none 0 0)) (inAt K j).f3.length ((inAt K j).f3.map (Value.int .i32))
 bel : Below w0.heap.size w0 w
 ge : w0.heap.size ≤ bP
theorem own4_keep {w w' : World} {base : Nat} {e : TypeId} {size : Nat} {v : Value} {k : Nat} {xs : List Value} (h : w.ownsRow base e size v k xs) (hk : ∀ b, v.ownBlock = some b → w'.heap[b]? = w.heap[b]?) : w'.ownsRow base e size v k xs := by
 obtain ⟨h1, h2⟩ := h
 refine ⟨h1, ?_⟩
 rcases h2 with h2 | ⟨g, cap, cur, hv, hg, hh, r⟩
 ·exact Or.inl h2
 ·subst hv
  exact Or.inr ⟨g, cap, cur, rfl, hg, by rw [hk g rfl]; exact hh, r⟩
theorem own4_apart {w : World} {base : Nat} {e t : TypeId} {size : Nat} {v : Value} {n : Nat} {xs : List Value} {b : Nat} {cs : Array Value} (h : w.ownsRow base e size v n xs) (hb : w.heap[b]? = some (.cells cs t (0, 0))) (ht : t ≠ e) : some b ≠ v.ownBlock := by
 rcases h.2 with ⟨rfl, _⟩ | ⟨g, cap, cur, rfl, _, hg, _⟩
 ·simp [Value.ownBlock]
 ·intro hh
  simp only [Value.ownBlock, Option.some.injEq] at hh
  subst hh
  rw [hb] at hg
  simp only [Option.some.injEq, Obj.cells.injEq] at hg
  exact ht hg.2.1
theorem own4_apart2 {w : World} {base base' : Nat} {e t : TypeId} {size size' : Nat} {v v' : Value} {n n' : Nat} {xs xs' : List Value} (h : w.ownsRow base e size v n xs) (h' : w.ownsRow base' t size' v' n' xs') (ht : t ≠ e) (k : Nat) (hk : v'.ownBlock = some k) : v.ownBlock ≠ some k := by
 rcases h'.2 with ⟨rfl, _⟩ | ⟨g, cap, cur, rfl, _, hg, _⟩
 ·simp [Value.ownBlock] at hk
 ·simp only [Value.ownBlock, Option.some.injEq] at hk
  subst hk
  exact (own4_apart h hg ht).symm
section
variable {w0 w w' : World} {bP : Nat} {start ncap : Int} {vI : Value} {R : List Value} {K : List In}
theorem PF.below (h : PF w0 w bP start ncap vI R K) (hb : Below w.heap.size w w') : PF w0 w' bP start ncap vI R K :=
 ⟨(hb.block _ (lt_of_block h.blk)).trans h.blk, own4_keep h.own fun b hv => hb.block b (World.ownsRow.lt h.own b hv).2, h.rl, fun j hj => own4_keep (h.rn j hj) fun b hv => hb.block b (World.ownsRow.lt (h.rn j hj) b hv).2, h.bel.trans (hb.mono h.bel.size), h.ge⟩
/-- One instruction more: the row appended to, the program's own cell written. -/
theorem PF.push (h : PF w0 w bP start ncap vI R K) {I : In} {r v' : Value} {o : Obj} (hr : w.ownsRow w0.heap.size 21 1 r I.f3.length (I.f3.map (Value.int .i32)))
  (ho : w'.ownsRow w0.heap.size 123 4 v' (K.length + 1) (cellsK K R ++ [.int .u8 I.f0, .int .u32 I.f1, .int .u32 I.f2, r])) (hg : (w.alloc o).grownBy w' vI.ownBlock) :
  PF w0 (w'.setCell ⟨bP, 0, none⟩ v') bP start ncap v' (R ++ [r]) (K ++ [I]) ∧ w'.cell? ⟨bP, 0, none⟩ = some vI ∧ w'.frozen? ⟨bP, 0, none⟩ = false := by
 have hoa := World.ownsRow.alloc h.own o
 have hb1 := Mem.blk_grown (Mem.blk_old h.blk o) hg (own4_apart hoa (Mem.blk_old h.blk o) (by decide))
 have keep : ∀ {q : Value} {n : Nat} {xs : List Value}, w.ownsRow w0.heap.size 21 1 q n xs → (w'.setCell ⟨bP, 0, none⟩ v').ownsRow w0.heap.size 21 1 q n xs := fun hq => by
  have h1 := (World.ownsRow.alloc hq o).kept hg (by
   rename_i q n xs
   cases hv : q.ownBlock with
   | none => exact Or.inl rfl
   | some b => exact Or.inr fun e => own4_apart2 hoa (World.ownsRow.alloc hq o) (by decide) b hv e.symm)
  exact ownsRow_setCell_other h1 (fun e => own4_apart h1 hb1 (by decide) e.symm) _
 have hin : ∀ j, j < K.length → inAt (K ++ [I]) j = inAt K j ∧ (R ++ [r]).getD j (.slice none 0 0) = R.getD j (.slice none 0 0) := fun j hj => by
  constructor
  ·simp only [inAt, List.getD_eq_getElem?_getD]
   rw [List.getElem?_append_left hj]
  ·simp only [List.getD_eq_getElem?_getD]
   rw [List.getElem?_append_left (by rw [h.rl]; exact hj)]
 refine ⟨⟨heap_setCell_same w' bP 0 _ _ _ hb1, ?_, by simp [h.rl], fun j hj => ?_, ?_, h.ge⟩, ?_, ?_⟩
 ·rw [cellsK_snoc I r K R h.rl, List.length_append]
  exact ownsRow_setCell_other ho (fun e => own4_apart ho hb1 (by decide) e.symm) _
 ·by_cases hj' : j < K.length
  ·rw [(hin j hj').1, (hin j hj').2]
   exact keep (h.rn j hj')
  ·have e : j = K.length := by simp at hj; omega
   subst e
   have e1 : inAt (K ++ [I]) K.length = I := by simp [inAt]
   have e2 : (R ++ [r]).getD K.length (.slice none 0 0) = r := by rw [← h.rl]; simp
   rw [e1, e2]
   exact keep hr
 ·exact Below.setCell ((h.bel.alloc h.bel.size o).grown hg (by simp; have := h.bel.size; omega) fun k hk => (World.ownsRow.lt h.own k hk).1) h.ge _
 ·rw [cell_of_row w' bP 0 _ _ _ hb1]; rfl
 ·simp [World.frozen?, hb1]
end
end Go.Proofs.YtcncclglmgdinaaDoor.Ps
namespace Go.Proofs.YtcncclglmgdinaaDoor.Ps
open Go.RowKit Mem Go.Proofs.YtcncclglmgdinaaDoor.PFnPgStep Go.Proofs.YtcncclglmgdinaaDoorW.PrintWords Go.Proofs.YtcncclglmgdinaaDoorW.PrintLast Go.Proofs.YtcncclglmgdinaaDoorW.PrintMore
set_option linter.unusedVariables false
theorem info_inst : (Tryd.prog.info? 123).map (fun i => (i.zero, i.size, i.bytes)) = some (some (.agg #[.int .u8 0, .int .u32 0, .int .u32 0, .slice none 0 0]), 4, 40) := by kernel_rfl
section
variable {w : World} {base : Nat} {v : Value} {n : Nat} {xs : List Value}
theorem run_app4 (hown : w.ownsRow base 123 4 v n xs) (cs : Array Value) (u0 u1 u2 u3 : Value) (hcs : cs = #[u0, u1, u2, u3]) (h1 : ∀ u ∈ [u0, u1, u2, u3], u.oneCell' = true) (hn : n ≤ 1000000) (hB : base ≤ w.heap.size) (ty : TypeId) :
  ∃ A' c' w', (Builtin.append_ #[117, 117] ty #[v, .slice (some ⟨w.heap.size, 0, none⟩) 1 1]).run Tryd.prog (w.alloc (.cells cs 123)) = .ok (.slice A' (n + 1) c') w' ∧
   w'.ownsRow base 123 4 (.slice A' (n + 1) c') (n + 1) (xs ++ [u0, u1, u2, u3]) ∧ (w.alloc (.cells cs 123)).grownBy w' v.ownBlock := by
 subst hcs
 obtain ⟨i0, hi0, hz0, hz1, hz2⟩ := info_parts info_inst
 obtain ⟨v', w', hr, ho', hg, _, _⟩ := run_append_own_at (P := Tryd.prog) (w.alloc (.cells #[u0, u1, u2, u3] 123)) base 117 ty 123 i0 _ 4 40 Tryd.underlying117 hi0 hz0 hz1 hz2 rfl (by omega) v n xs (World.ownsRow.alloc hown _) ⟨w.heap.size, 0, none⟩ 1 1 [u0, u1, u2, u3] rfl (by
  intro j u' hj
  rw [Addr.add_lit, Nat.zero_add, World.cell?_alloc_new]
  simpa using hj) h1 (by unfold maxLen; omega) (by omega) (by simp; omega)
 rcases ho'.2 with ⟨_, h0⟩ | ⟨g, c, cur, hv, _⟩
 ·omega
 ·subst hv
  exact ⟨_, _, w', hr, ho', hg⟩
theorem wp_app4_op {o : Oper} {a : Act} {Q : Exit → Act → World → Prop} {K : Act → World → Prop} (sl x : Operand)
  (ho : o.op = .call { callee := .builtin .append, args := #[sl, x], argTypes := #[117, 117] })
  (hs : a.eval sl = v) (hown : w.ownsRow base 123 4 v n xs) (cs : Array Value) (u0 u1 u2 u3 : Value) (hcs : cs = #[u0, u1, u2, u3]) (h1 : ∀ u ∈ [u0, u1, u2, u3], u.oneCell' = true) (hn : n ≤ 1000000) (hB : base ≤ w.heap.size)
  (hx : a.eval x = .slice (some ⟨w.heap.size, 0, none⟩) 1 1)
  (h : ∀ A' c' w', w'.ownsRow base 123 4 (.slice A' (n + 1) c') (n + 1) (xs ++ [u0, u1, u2, u3]) → (w.alloc (.cells cs 123)).grownBy w' v.ownBlock → K (a.put o.dst (.slice A' (n + 1) c')) w') :
  Oper.wp Tryd.prog o a (w.alloc (.cells cs 123)) K Q := by
 obtain ⟨A', c', w', hr, h2, h3⟩ := run_app4 hown cs u0 u1 u2 u3 hcs h1 hn hB o.type
 unfold Oper.wp execOp
 simp only [ho, resolve, invoke, builtin, Sem.run_bind, Sem.run_pure, Result.andThen_ok, List.map_toArray, List.map_cons, List.map_nil, hs, hx, hr]
 exact h A' c' w' h2 h3
end
theorem own4_slice {w : World} {base n : Nat} {e : TypeId} {size : Nat} {v : Value} {xs : List Value} (h : w.ownsRow base e size v n xs) : ∃ A c, v = .slice A n c := by
 rcases h.2 with ⟨rfl, rfl⟩ | ⟨g, cap, cur, rfl, _⟩
 ·exact ⟨none, 0, rfl⟩
 ·exact ⟨_, _, rfl⟩
set_option maxRecDepth 100000 in
set_option maxHeartbeats 8000000 in
theorem progFor_c (L : List In) (A : Option Addr) (cap : Nat) (start : Nat) (ncap : Int) (w0 : World) (hK : k55.C w0 A L.length L) (hcap : L.length ≤ cap) (hL : L.length ≤ 2000) (hL0 : 0 < L.length) (hst : start < L.length) (hn0 : 2 ≤ ncap) (hn1 : ncap ≤ 2002)
  (hf0 : (inAt L 0).f0 = 5) (hrg : ∀ i, i < L.length → 0 ≤ (inAt L i).f0 ∧ (inAt L i).f0 ≤ 255 ∧ (((inAt L i).f0 ≠ 4 ∧ (inAt L i).f0 ≠ 5) → 0 ≤ (inAt L i).f1 ∧ (inAt L i).f1 ≤ 2147483647) ∧ (inAt L i).f3.length ≤ 2147483647)
  (hfit : ∀ i, i < L.length → ∃ k, impl_fitInst.f k (inAt L i).f0 (inAt L i).f1 (inAt L i).f2 (inAt L i).f3 L start ncap = some true) (k : Nat) (hlo : impl_loops.f k L start ncap = some false) :
  Calls Tryd.prog 38 #[.agg #[.slice A L.length cap, .int .i64 start, .int .i64 ncap]] w0 fun e w' => ∃ bP vI R, e = .returned (.tuple #[.pointer (some ⟨bP, 0, none⟩), .bool true]) ∧ PF w0 w' bP start ncap vI R (L.map cvt) := by
 have HK := Lib.hid hK; have HRG := Lib.hid hrg; have HFI := Lib.hid hfit; have HLO := Lib.hid hlo
 obtain ⟨b0, o0, A0, c0, hA0, e0, _, _, _, _, _⟩ := elem4 hK hL0
 rw [hf0, Nat.zero_mul, Nat.add_zero] at e0
 have e0' : (w0.alloc (.cells #[.slice A L.length cap, .int .i64 start, .int .i64 ncap] 24)).cell? ⟨b0, o0, none⟩ = some (.int .i64 5) := low ((Below.refl _ _).alloc (Nat.le_refl _) _) e0
 clear hK hrg hfit hlo hf0 e0
 have hb1 : decide (L.length = 0) = false := decide_eq_false (by omega)
 have hb1' : ((L.length : Int) == 0) = false := by rw [beq_eq_false_iff_ne]; omega
 have hb2 : decide ((2000 : Int) < (L.length : Int)) = false := decide_eq_false (by omega)
 have hb3 : decide ((L.length : Int) ≤ (start : Int)) = false := decide_eq_false (by omega)
 have hb3' : decide (L.length ≤ start) = false := decide_eq_false (by omega)
 have hb4 : decide (ncap < 2) = false := decide_eq_false (by omega)
 have hb5 : decide ((2002 : Int) < ncap) = false := decide_eq_false (by omega)
 have hLi : (0 : Int) < (L.length : Int) := by omega
 subst hA0
 go_enter Tryd.func38, Tryd.ntmps38
 go_upto_region 3 with fail
 have HB1 := Lib.hid ((Below.refl w0.heap.size w0).alloc (Nat.le_refl _) (.cells #[.slice (some ⟨b0, o0, none⟩) L.length cap, .int .i64 start, .int .i64 ncap] 24))
 have hx := Mem.blk_new w0 (.cells #[.slice (some ⟨b0, o0, none⟩) L.length cap, .int .i64 start, .int .i64 ncap] 24)
 generalize w0.alloc (.cells #[.slice (some ⟨b0, o0, none⟩) L.length cap, .int .i64 start, .int .i64 ncap] 24) = W1 at *
 have k0 : W1.cell? ⟨w0.heap.size, 0, none⟩ = some (.slice (some ⟨b0, o0, none⟩) L.length cap) := by rw [cell_of_row W1 _ 0 _ _ _ hx]; rfl
 have k1 : W1.cell? ⟨w0.heap.size, 1, none⟩ = some (.int .i64 start) := by rw [cell_of_row W1 _ 1 _ _ _ hx]; rfl
 have k2 : W1.cell? ⟨w0.heap.size, 2, none⟩ = some (.int .i64 ncap) := by rw [cell_of_row W1 _ 2 _ _ _ hx]; rfl
 have HX1 := Lib.hid hx
 clear hx e0'
 go_upto_region 4 with fail
 have HPF0 : Hid (PF w0 (W1.alloc (.cells #[.slice none 0 0, .int .i64 start, .int .i64 ncap] 119)) W1.heap.size start ncap (.slice none 0 0) [] []) := Lib.hid
  ⟨Mem.blk_new _ _, World.ownsRow_nil _ _ _ _, rfl, fun j hj => by simp at hj, HB1.out.alloc HB1.out.size _, HB1.out.size⟩
 have HX2 := Lib.hid (Mem.blk_old HX1.out (.cells #[.slice none 0 0, .int .i64 start, .int .i64 ncap] 119))
 clear k0 k1 k2
 generalize W1.alloc (.cells #[.slice none 0 0, .int .i64 start, .int .i64 ncap] 119) = W2 at *
 generalize W1.heap.size = bP at *
 have k0 : W2.cell? ⟨w0.heap.size, 0, none⟩ = some (.slice (some ⟨b0, o0, none⟩) L.length cap) := by rw [cell_of_row W2 _ 0 _ _ _ HX2.out]; rfl
 go_wp2_with fail
 clear k0
 go_loopg [57] (L.length + 1) (fun gg s57 wx => ∃ (i : Nat) (vI : Value) (R : List Value), s57 = .int .i64 i ∧ i ≤ L.length ∧ L.length - i < gg ∧ Hid (PF w0 wx bP start ncap vI R ((L.take i).map cvt)) ∧ Hid (wx.heap[w0.heap.size]? = some (.cells #[.slice (some ⟨b0, o0, none⟩) L.length cap, .int .i64 start, .int .i64 ncap] 24 (0, 0))))
 case atStart => exact ⟨0, _, [], rfl, by omega, by omega, HPF0, HX2⟩
 case round =>
  obtain ⟨i, vI, R, rfl, hi, hg, HPF, HX⟩ := hrel
  obtain ⟨g', rfl⟩ : ∃ g', gk = g' + 1 := ⟨gk - 1, by omega⟩
  by_cases hlt : i < L.length
  ·have hb0' : decide ((i : Int) < (L.length : Int)) = true := decide_eq_true (by omega)
   have hK1 := elem4 HK.out hlt
   have hrg := HRG.out i hlt
   obtain ⟨kf, hfi⟩ := HFI.out i hlt
   have htk : (L.take (i + 1)).map cvt = (L.take i).map cvt ++ [cvt (inAt L i)] := by
    rw [List.take_add_one, List.map_append]
    simp [inAt, List.getD_eq_getElem?_getD, hlt]
   generalize inAt L i = I at *
   obtain ⟨op, f1, f2, rs⟩ := I
   simp only at *
   obtain ⟨bI, oI, A3, c3, hAI, e0, e1, e2, e3, l3, g3⟩ := hK1
   injection hAI with hAI
   injection hAI with hAI1 hAI2
   subst hAI1
   subst hAI2
   have CF : Hid (∀ W, Below w0.heap.size w0 W → Calls Tryd.prog 55 #[.agg #[.int .i64 op, .int .i64 f1, .int .i64 f2, .slice A3 rs.length c3], .agg #[.slice (some ⟨b0, o0, none⟩) L.length cap, .int .i64 start, .int .i64 ncap]] W fun e w' => e = .returned (.bool true) ∧ Below W.heap.size W w') :=
    Lib.hid fun W hb => (impl_fitInst.calls kf op f1 f2 A3 c3 rs (some ⟨b0, o0, none⟩) cap L start ncap true W (Kd.C_below g3 hb) l3 (Kd.C_below HK.out hb) hcap hfi).mono fun e w' h => ⟨h.1, by first | exact h.2 | exact h.2.below⟩
   have HZ := Lib.hid (ints_kd g3)
   have HTK := Lib.hid htk
   replace e0 := low HPF.out.bel e0
   replace e1 := low HPF.out.bel e1
   replace e2 := low HPF.out.bel e2
   replace e3 := low HPF.out.bel e3
   clear hfi l3 g3 htk
   go_upto_region 7 with fail
   have HPF4 := Lib.hid (HPF.out.below ((Below.refl _ wr).alloc (Nat.le_refl _) (.cells #[.int .i64 op, .int .i64 f1, .int .i64 f2, .slice A3 rs.length c3] 55)))
   have HX4 := Lib.hid (Mem.blk_old HX.out (.cells #[.int .i64 op, .int .i64 f1, .int .i64 f2, .slice A3 rs.length c3] 55))
   have hnew := Mem.blk_new wr (.cells #[.int .i64 op, .int .i64 f1, .int .i64 f2, .slice A3 rs.length c3] 55)
   clear e0 e1 e2 e3
   generalize wr.alloc (.cells #[.int .i64 op, .int .i64 f1, .int .i64 f2, .slice A3 rs.length c3] 55) = w4 at *
   generalize wr.heap.size = T at *
   have n0 : w4.cell? ⟨T, 0, none⟩ = some (.int .i64 op) := by rw [cell_of_row w4 T 0 _ _ _ hnew]; rfl
   have n1 : w4.cell? ⟨T, 1, none⟩ = some (.int .i64 f1) := by rw [cell_of_row w4 T 1 _ _ _ hnew]; rfl
   have n2 : w4.cell? ⟨T, 2, none⟩ = some (.int .i64 f2) := by rw [cell_of_row w4 T 2 _ _ _ hnew]; rfl
   have n3 : w4.cell? ⟨T, 3, none⟩ = some (.slice A3 rs.length c3) := by rw [cell_of_row w4 T 3 _ _ _ hnew]; rfl
   have HNW := Lib.hid hnew
   have k0 : w4.cell? ⟨w0.heap.size, 0, none⟩ = some (.slice (some ⟨b0, o0, none⟩) L.length cap) := by rw [cell_of_row w4 _ 0 _ _ _ HX4.out]; rfl
   have k1 : w4.cell? ⟨w0.heap.size, 1, none⟩ = some (.int .i64 start) := by rw [cell_of_row w4 _ 1 _ _ _ HX4.out]; rfl
   have k2 : w4.cell? ⟨w0.heap.size, 2, none⟩ = some (.int .i64 ncap) := by rw [cell_of_row w4 _ 2 _ _ _ HX4.out]; rfl
   clear hnew
   go_upto_region 9 with (go_at_call 55; refine (Calls.mono (CF.out _ HPF4.out.bel) ?_); rintro e w5 ⟨rfl, hb5⟩; have HPF5 := Lib.hid (HPF4.out.below hb5); have HX5 := Lib.hid ((hb5.block _ (lt_of_block HX4.out)).trans HX4.out); have HN5 := Lib.hid ((hb5.block _ (lt_of_block HNW.out)).trans HNW.out); clear hb5)
   obtain ⟨AI, cI, hvI⟩ := own4_slice HPF5.out.own
   subst hvI
   have hKl : ((L.take i).map cvt).length = i := by simp; omega
   have HKL := Lib.hid hKl
   rw [hKl] at HPF5
   have z : w5.cell? ⟨bP, 0, none⟩ = some (.slice AI i cI) := by rw [cell_of_row w5 bP 0 _ _ _ HPF5.out.blk]; rfl
   have m0 : w5.cell? ⟨T, 0, none⟩ = some (.int .i64 op) := by rw [cell_of_row w5 T 0 _ _ _ HN5.out]; rfl
   have m1 : w5.cell? ⟨T, 1, none⟩ = some (.int .i64 f1) := by rw [cell_of_row w5 T 1 _ _ _ HN5.out]; rfl
   have m2 : w5.cell? ⟨T, 2, none⟩ = some (.int .i64 f2) := by rw [cell_of_row w5 T 2 _ _ _ HN5.out]; rfl
   have m3 : w5.cell? ⟨T, 3, none⟩ = some (.slice A3 rs.length c3) := by rw [cell_of_row w5 T 3 _ _ _ HN5.out]; rfl
   have CI : Hid (∀ W, Below w0.heap.size w0 W → Calls Tryd.prog 56 #[.agg #[.int .i64 op, .int .i64 f1, .int .i64 f2, .slice A3 rs.length c3]] W fun e w' => ∃ A' c', e = .returned (.agg #[.int .u8 op, .int .u32 (cvt ⟨op, f1, f2, rs⟩).f1, .int .u32 (cvt ⟨op, f1, f2, rs⟩).f2, .slice A' (cvt ⟨op, f1, f2, rs⟩).f3.length c']) ∧ w'.ownsRow W.heap.size 21 1 (.slice A' (cvt ⟨op, f1, f2, rs⟩).f3.length c') (cvt ⟨op, f1, f2, rs⟩).f3.length ((cvt ⟨op, f1, f2, rs⟩).f3.map (Value.int .i32)) ∧ Below W.heap.size W w') :=
    Lib.hid fun W hb => instOf_c A3 c3 rs W (B := w0.heap.size) op f1 f2 hrg.1 hrg.2.1 hrg.2.2.1 hrg.2.2.2 (HZ.out.below hb (Nat.le_refl _)) hb.size
   have hop8 : (cvt ⟨op, f1, f2, rs⟩).f0 = op := by unfold cvt; split <;> rfl
   have HTK2 := Lib.hid HTK.out
   generalize cvt ⟨op, f1, f2, rs⟩ = J at *
   obtain ⟨op', j1, j2, js⟩ := J
   simp only at *
   subst hop8
   clear k0 k1 k2 n0 n1 n2 n3 hrg hKl
   refine Mem.wp_region_midk 6 3 (fun w' => w'.cell? ⟨bP, 0, none⟩ = some (.slice AI i cI) ∧ w'.cell? ⟨T, 0, none⟩ = some (.int .i64 op') ∧ w'.cell? ⟨T, 1, none⟩ = some (.int .i64 f1) ∧ w'.cell? ⟨T, 2, none⟩ = some (.int .i64 f2) ∧ w'.cell? ⟨T, 3, none⟩ = some (.slice A3 rs.length c3)) (by kernel_rfl) (by kernel_rfl) ⟨z, m0, m1, m2, m3⟩ ?_
   simp only [List.take_succ_cons, List.take_zero]
   iterate 6
    refine Mem.wpHeld_step (v := ?_) (by rfl) ?_ ?_
    rotate_left
    ·intro w hSw; (try dsimp only at hSw); go_simp; try with_reducible rfl
    try simp only [Act.put, List.setIfInBounds_toArray, List.set_cons_zero, List.set_cons_succ]
   refine Mem.wpHeld_nil ?_
   simp only [Mem.midK]
   refine wpOp_step rfl ?_
   intro K' hK
   go_simp
   go_wp2_with (go_at_call 56; have X := CI.out w5.drew HPF5.out.bel.drew; refine (Calls.mono X ?_); clear X; rintro e w6 ⟨A', c', rfl, hr6, hb6⟩)
   have b6 : Below w5.heap.size w5 w6 := (Below.refl _ _).drew.trans hb6
   have HPF6 := Lib.hid (HPF5.out.below b6)
   have HN6 := Lib.hid ((b6.block _ (lt_of_block HN5.out)).trans HN5.out)
   have HX6 := Lib.hid ((b6.block _ (lt_of_block HX5.out)).trans HX5.out)
   have HR6 := Lib.hid (hr6.mono (show w0.heap.size ≤ w5.drew.heap.size from HPF5.out.bel.size))
   refine ⟨⟨low b6 z, low b6 m0, low b6 m1, low b6 m2, low b6 m3⟩, ?_⟩
   refine wpOp_step rfl ?_
   intro K' hK
   go_simp
   have hb7 := (Below.refl w6.heap.size w6).alloc (Nat.le_refl _) (.cells #[.int .u8 op', .int .u32 j1, .int .u32 j2, .slice A' js.length c'] 123)
   refine hK _ _ ⟨⟨low hb7 (low b6 z), low hb7 (low b6 m0), low hb7 (low b6 m1), low hb7 (low b6 m2), low hb7 (low b6 m3)⟩, ?_⟩
   clear hK K'
   refine wpOp_step rfl ?_
   intro K' hK
   rw [if_pos (by rfl)]
   have hown6 : w6.ownsRow w0.heap.size 123 4 (.slice AI i cI) i (cellsK ((L.take i).map cvt) R) := by have := HPF6.out.own; rw [HKL.out] at this; exact this
   refine wp_app4_op (v := .slice AI i cI) (n := i) (.tmp 69) (.tmp 72) rfl rfl hown6 _ (.int .u8 op') (.int .u32 j1) (.int .u32 j2) (.slice A' js.length c') rfl (by simp [Value.oneCell']) (by omega) HPF6.out.bel.size rfl ?_
   intro A7 c7 w7 ho7 hg7
   have hPN := HPF6.out.push (I := ⟨op', j1, j2, js⟩) HR6.out (by rw [HKL.out]; exact ho7) hg7
   have hoa := World.ownsRow.alloc hown6 (.cells #[.int .u8 op', .int .u32 j1, .int .u32 j2, .slice A' js.length c'] 123)
   have hT7 := Mem.blk_grown (Mem.blk_old HN6.out _) hg7 (own4_apart hoa (Mem.blk_old HN6.out _) (by decide))
   have hX7 := Mem.blk_grown (Mem.blk_old HX6.out _) hg7 (own4_apart hoa (Mem.blk_old HX6.out _) (by decide))
   obtain ⟨hP8, hc8, hf8⟩ := hPN
   refine hK _ _ ⟨⟨hc8, by rw [cell_of_row w7 T 0 _ _ _ hT7]; rfl, by rw [cell_of_row w7 T 1 _ _ _ hT7]; rfl, by rw [cell_of_row w7 T 2 _ _ _ hT7]; rfl, by rw [cell_of_row w7 T 3 _ _ _ hT7]; rfl⟩, ?_⟩
   have hne : w0.heap.size ≠ bP := fun e => by
    have h1 := HPF6.out.blk
    rw [← e, HX6.out] at h1
    simp only [Option.some.injEq, Obj.cells.injEq] at h1
    exact absurd h1.2.1 (by decide)
   have HP8 := Lib.hid hP8
   have HX8 := Lib.hid (Mem.blk_set_ne hX7 (p := ⟨bP, 0, none⟩) hne (.slice A7 (i + 1) c7))
   clear hK K' hP8 ho7 hg7 hown6 hoa hT7 hX7 hb7 b6 hr6 hb6
   go_wp2_with fail
   refine NoPanic.normal ?_
   go_wp2
   go_roundg g'
   case rel => exact ⟨i + 1, _, _, by go_num, by omega, by omega, Lib.hid (by rw [HTK2.out]; exact HP8.out), HX8⟩
   case measure => omega
  ·have hb0' : decide ((i : Int) < (L.length : Int)) = false := decide_eq_false (by omega)
   have hb1'' : decide (i < L.length) = false := decide_eq_false (by omega)
   obtain rfl : i = L.length := by omega
   rw [List.take_length] at HPF
   have CLo : Hid (∀ W, Below w0.heap.size w0 W → Calls Tryd.prog 57 #[.agg #[.slice (some ⟨b0, o0, none⟩) L.length cap, .int .i64 start, .int .i64 ncap]] W fun e w' => e = .returned (.bool false) ∧ Below W.heap.size W w') :=
    Lib.hid fun W hb => (impl_loops.calls k (some ⟨b0, o0, none⟩) cap L start ncap false W (Kd.C_below HK.out hb) hcap HLO.out).mono fun e w' h => ⟨h.1, by first | exact h.2 | exact h.2.below⟩
   have k0 : wr.cell? ⟨w0.heap.size, 0, none⟩ = some (.slice (some ⟨b0, o0, none⟩) L.length cap) := by rw [cell_of_row wr _ 0 _ _ _ HX.out]; rfl
   have k1 : wr.cell? ⟨w0.heap.size, 1, none⟩ = some (.int .i64 start) := by rw [cell_of_row wr _ 1 _ _ _ HX.out]; rfl
   have k2 : wr.cell? ⟨w0.heap.size, 2, none⟩ = some (.int .i64 ncap) := by rw [cell_of_row wr _ 2 _ _ _ HX.out]; rfl
   go_wp2_with (go_at_call 57; refine (Calls.mono (CLo.out _ HPF.out.bel) ?_); rintro e w5 ⟨rfl, hb5⟩; have HPF5 := Lib.hid (HPF.out.below hb5); clear hb5)
   go_ret2
   exact ⟨_, _, _, rfl, HPF5.out⟩
end Go.Proofs.YtcncclglmgdinaaDoor.Ps
