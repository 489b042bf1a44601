/- simplify1: a loop around a simple tree. Simplify at a loop, and at what it leaves alone. Simplify at a repeat without a greatest number. -/
import Derived.Test.YtholpemmakdglaaAEFnSySimplifyTwice
import Derived.Test.YtholpemmakdglaaACFnSySimplifyTwice
namespace Go.Proofs.Ytholpemmakdglaa.PFnSySimplifyTwice
open Go.RowKit Go.Proofs.YtholpemmakdglaaW.PrintWords Go.Proofs.YtholpemmakdglaaW.PrintLast Go.Proofs.YtholpemmakdglaaW.PrintMore
set_option linter.unusedVariables false
set_option linter.unusedSimpArgs false
/-- What a simplified tree's pointer tells. -/
def SimP (w : World) (ok : Nat → Prop) (r : Tr) (e : Ending) (w' : World) : Prop :=
  ∃ b t, e = .returned (.pointer (some ⟨b, 0, none⟩)) ∧ Below w.heap.size w w' ∧ RsT w' (fun k => ok k ∨ w.heap.size ≤ k) b t ∧ fnT t ∧ nmT t = r
theorem nm_f0 (x : Tr) : (nmT x).f0 = x.f0 := by obtain ⟨op, fl, rs, m0, m1, cp, nm, ts⟩ := x; rw [nmT, nmN]
theorem nm_f1 (x : Tr) : (nmT x).f1 = x.f1 := by obtain ⟨op, fl, rs, m0, m1, cp, nm, ts⟩ := x; rw [nmT, nmN]
theorem nm_un {op : Int} (ho : op = 14 ∨ op = 15 ∨ op = 16) (fl : Int) (rs : List Int) (m0 m1 cp : Int) (nm : ByteArray) (x : Tr) : nmT ⟨op, fl, rs, m0, m1, cp, nm, [x]⟩ = unT op fl (nmT x) := by
  rw [nmT, nmN, nmL, nmL]
  unfold unT
  simp only [if_neg (show ¬ (op = 3 ∨ op = 4) by omega), if_neg (show ¬ op = 17 by omega), if_neg (show ¬ op = 13 by omega)]
theorem RsL.one {w : World} {ok : Nat → Prop} {s : Nat} {x : Tr} (h : RsT w ok s x) : RsL w ok [s] [x] := by rw [RsL, ]; exact ⟨s, [], rfl, h, by rw [RsL]⟩
/-- The new node that simplify1 makes. -/
theorem new_un {op fl : Int} {s : Nat} {x : Tr} {ok : Nat → Prop} {w : World} (ho : op = 14 ∨ op = 15 ∨ op = 16) (hf0 : 0 ≤ fl) (hf1 : fl ≤ 65535) (hx : RsT w ok s x) (hfx : fnT x) :
    SimP w ok (unT op fl (nmT x)) (.returned (.pointer (some ⟨w.heap.size, 0, none⟩))) ((w.alloc (.cells (ndC op fl (.slice (some ⟨w.heap.size, 3, none⟩) 1 1) (.pointer (some ⟨s, 0, none⟩)) (.slice none 0 0) 0 0 0 ⟨#[]⟩) 69)).alloc (.cells #[.pointer (some ⟨s, 0, none⟩)] 46)) := by
  have hb : Below w.heap.size w ((w.alloc (.cells (ndC op fl (.slice (some ⟨w.heap.size, 3, none⟩) 1 1) (.pointer (some ⟨s, 0, none⟩)) (.slice none 0 0) 0 0 0 ⟨#[]⟩) 69)).alloc (.cells #[.pointer (some ⟨s, 0, none⟩)] 46)) := ((Below.refl _ _).alloc (Nat.le_refl _) _).alloc (by simp) _
  have hk := Mem.blk_old (Mem.blk_new w (.cells (ndC op fl (.slice (some ⟨w.heap.size, 3, none⟩) 1 1) (.pointer (some ⟨s, 0, none⟩)) (.slice none 0 0) 0 0 0 ⟨#[]⟩) 69)) (.cells #[.pointer (some ⟨s, 0, none⟩)] 46)
  refine ⟨w.heap.size, ⟨op, fl, [], 0, 0, 0, ⟨#[]⟩, [x]⟩, rfl, hb, ?_, ?_, nm_un ho _ _ _ _ _ _ _⟩
  · rw [RsT]
    refine ⟨.inr (Nat.le_refl _), _, _, _, [s], hk, ⟨none, 0, rfl, by simp, by simp, fun h => by simp at h⟩, ⟨_, 1, rfl, by simp, by simp [maxLen], fun _ => ⟨_, 3, rfl, .inr (Nat.le_refl _), fun j u hj => ?_⟩⟩, RsL.one (rsT_move (fun k hk hlt => ⟨hb.block k hlt, .inl hk⟩) x s hx)⟩
    cases j with
    | zero => simp at hj; subst hj; exact (blk_cell hk 3).trans rfl
    | succ j => simp at hj
  · rw [fnT, fnL, fnL]
    exact ⟨by omega, by simp [Room], by simp [Room], hfx, trivial⟩
set_option maxRecDepth 100000 in
set_option maxHeartbeats 4000000 in
theorem simplify1_nil (op fl : Int) (s : Nat) (x : Tr) (ok : Nat → Prop) (w : World) (ho : op = 14 ∨ op = 15 ∨ op = 16) (hf0 : 0 ≤ fl) (hf1 : fl ≤ 65535) (hx : RsT w ok s x) (hfx : fnT x) :
    Calls Try.prog 43 #[.int .u8 op, .int .u16 fl, .pointer (some ⟨s, 0, none⟩), .pointer none] w (SimP w ok (s1 op fl (nmT x))) := by
  have HN := Lib.hid (new_un ho hf0 hf1 hx hfx)
  have HS : Hid (SimP w ok (nmT x) (.returned (.pointer (some ⟨s, 0, none⟩))) w) := Lib.hid ⟨s, x, rfl, Below.refl _ _, rsT_move (fun k hk _ => ⟨rfl, .inl hk⟩) x s hx, hfx, rfl⟩
  have hs1 : Hid (s1 op fl (nmT x) = if x.f0 = 2 then nmT x else if op = x.f0 ∧ ngF fl = ngF x.f1 then nmT x else unT op fl (nmT x)) := Lib.hid (by unfold s1; rw [nm_f0, nm_f1])
  have hcc : ∃ xop xfl, x.f0 = xop ∧ x.f1 = xfl ∧ w.cell? ⟨s, 0, none⟩ = some (.int .u8 xop) ∧ w.cell? ⟨s, 1, none⟩ = some (.int .u16 xfl) := by
    obtain ⟨xop, xfl, xrs, xm0, xm1, xcp, xnm, xts⟩ := x
    rw [RsT] at hx
    obtain ⟨_, vS, v3, vR, bs, hbk, _, _, _⟩ := hx
    exact ⟨xop, xfl, rfl, rfl, (blk_cell hbk 0).trans rfl, (blk_cell hbk 1).trans rfl⟩
  obtain ⟨xop, xfl, e0, e1, c0, c1⟩ := hcc
  rw [e0, e1] at hs1
  clear hx hfx e0 e1
  generalize nmT x = y at *
  generalize hR : s1 op fl y = R at *
  clear hR
  by_cases h2 : xop = 2
  · have hb2 : (xop == 2) = true := by simpa using h2
    have HR : Hid (R = y) := Lib.hid (by rw [hs1.out, if_pos h2])
    clear h2
    go_enter Try.func43, Try.ntmps43
    go_wp2_with fail
    go_ret
    rw [HR.out]; exact HS.out
  have hb2 : (xop == 2) = false := by simpa using h2
  by_cases h3 : op = xop
  · by_cases h4 : ngF fl = ngF xfl
    · have hb4 : (bits BinOp.and IntKind.u16 fl 32 == bits BinOp.and IntKind.u16 xfl 32) = true := by simpa [ngF] using h4
      have HR : Hid (R = y) := Lib.hid (by rw [hs1.out, if_neg h2, if_pos ⟨h3, h4⟩])
      have hb3 : (op == xop) = true := by simpa using h3
      clear h2 h3 h4
      go_enter Try.func43, Try.ntmps43
      go_wp2_with fail
      go_ret
      rw [HR.out]; exact HS.out
    · have hb4 : (bits BinOp.and IntKind.u16 fl 32 == bits BinOp.and IntKind.u16 xfl 32) = false := by simpa [ngF] using h4
      have HR : Hid (R = unT op fl y) := Lib.hid (by rw [hs1.out, if_neg h2, if_neg (fun h => h4 h.2)])
      have hb3 : (op == xop) = true := by simpa using h3
      clear h2 h3 h4
      go_enter Try.func43, Try.ntmps43
      go_wp2_with fail
      go_ret
      rw [HR.out]; exact HN.out
  · have HR : Hid (R = unT op fl y) := Lib.hid (by rw [hs1.out, if_neg h2, if_neg (fun h => h3 h.1)])
    have hb3 : (op == xop) = false := by simpa using h3
    clear h2 h3
    go_enter Try.func43, Try.ntmps43
    go_wp2_with fail
    go_ret
    rw [HR.out]; exact HN.out
theorem crow_inj {w : World} {ok ok' : Nat → Prop} {v : Value} {us us' : List Value} (h : CRow w ok v us) (h' : CRow w ok' v us') : us = us' := by
  obtain ⟨A, c, e, h1, h2, h3⟩ := h
  obtain ⟨A', c', e', h1', h2', h3'⟩ := h'
  rw [e] at e'
  injection e' with eA el ec
  apply List.ext_getElem? 
  intro j
  rcases Nat.lt_or_ge j us.length with hlt | hge
  · obtain ⟨g, o, rfl, _, hc⟩ := h3 (by omega)
    obtain ⟨g', o', eg, _, hc'⟩ := h3' (by omega)
    rw [← eA] at eg
    injection eg with eg
    injection eg with eg eo _
    subst eg eo
    have a1 := hc j _ (List.getElem?_eq_getElem hlt)
    have a2 := hc' j _ (List.getElem?_eq_getElem (by omega))
    rw [a1] at a2
    rw [List.getElem?_eq_getElem hlt, List.getElem?_eq_getElem (show j < us'.length by omega)]
    exact a2
  · rw [List.getElem?_eq_none hge, List.getElem?_eq_none (by omega)]
theorem ptrs_inj : ∀ {bs bs' : List Nat}, ptrs bs = ptrs bs' → bs = bs'
  | [], [], _ => rfl
  | [], _ :: _, h => by simp [ptrs] at h
  | _ :: _, [], h => by simp [ptrs] at h
  | b :: bs, b' :: bs', h => by
    simp only [ptrs, List.map_cons, List.cons.injEq] at h
    obtain ⟨h1, h2⟩ := h
    injection h1 with h1
    injection h1 with h1
    injection h1 with h1 _ _
    rw [h1, ptrs_inj h2]
theorem ints_inj : ∀ {rs rs' : List Int}, rs.map (Value.int .i32) = rs'.map (Value.int .i32) → rs = rs'
  | [], [], _ => rfl
  | [], _ :: _, h => by simp at h
  | _ :: _, [], h => by simp at h
  | b :: bs, b' :: bs', h => by
    simp only [List.map_cons, List.cons.injEq] at h
    obtain ⟨h1, h2⟩ := h
    injection h1 with _ h1
    rw [h1, ints_inj h2]
mutual
theorem rsT_inj {w : World} {ok ok' : Nat → Prop} : ∀ (t t' : Tr) (b : Nat), RsT w ok b t → RsT w ok' b t' → t = t'
  | ⟨op, fl, rs, m0, m1, cp, nm, ts⟩, ⟨op', fl', rs', m0', m1', cp', nm', ts'⟩, b, h, h' => by
    rw [RsT] at h h'
    obtain ⟨_, vS, v3, vR, bs, h0, hR, hS, hL⟩ := h
    obtain ⟨_, vS', v3', vR', bs', h0', hR', hS', hL'⟩ := h'
    rw [h0] at h0'
    simp only [Option.some.injEq, Obj.cells.injEq, Array.mk.injEq, List.cons.injEq, Value.int.injEq, Value.string.injEq, Value.pointer.injEq, true_and, and_true] at h0'
    obtain ⟨rfl, rfl, rfl, rfl, rfl, rfl, rfl, rfl, rfl⟩ := h0'
    obtain rfl := ints_inj (crow_inj hR hR')
    obtain rfl := ptrs_inj (crow_inj hS hS')
    obtain rfl := rsL_inj ts ts' bs hL hL'
    rfl
theorem rsL_inj {w : World} {ok ok' : Nat → Prop} : ∀ (ts ts' : List Tr) (bs : List Nat), RsL w ok bs ts → RsL w ok' bs ts' → ts = ts'
  | [], [], _, _, _ => rfl
  | [], t' :: ts', bs, h, h' => by
    have h0 : bs = [] := by simpa only [RsL] using h
    rw [RsL] at h'
    obtain ⟨b, bs', e, _⟩ := h'
    rw [h0] at e; cases e
  | t :: ts, [], bs, h, h' => by
    have h0 : bs = [] := by simpa only [RsL] using h'
    rw [RsL] at h
    obtain ⟨b, bs', e, _⟩ := h
    rw [h0] at e; cases e
  | t :: ts, t' :: ts', bs, h, h' => by
    rw [RsL] at h h'
    obtain ⟨b, bs1, rfl, h1, h2⟩ := h
    obtain ⟨b', bs1', e, h1', h2'⟩ := h'
    injection e with e1 e2
    subst e1 e2
    rw [rsT_inj t t' b h1 h1', rsL_inj ts ts' bs1 h2 h2']
end
set_option maxRecDepth 100000 in
set_option maxHeartbeats 4000000 in
theorem simplify1_re (op fl : Int) (s r : Nat) (x y : Tr) (rs : List Int) (m0 m1 cp : Int) (nm : ByteArray) (ok : Nat → Prop) (w : World) (ho : op = 14 ∨ op = 15 ∨ op = 16) (hf0 : 0 ≤ fl) (hf1 : fl ≤ 65535) (hx : RsT w ok s x) (hfx : fnT x)
    (hr : RsT w ok r ⟨op, fl, rs, m0, m1, cp, nm, [y]⟩) (hfr : fnT ⟨op, fl, rs, m0, m1, cp, nm, [y]⟩) :
    Calls Try.prog 43 #[.int .u8 op, .int .u16 fl, .pointer (some ⟨s, 0, none⟩), .pointer (some ⟨r, 0, none⟩)] w (SimP w ok (s1 op fl (nmT x))) := by
  have HN := Lib.hid (new_un ho hf0 hf1 hx hfx)
  have HS : Hid (SimP w ok (nmT x) (.returned (.pointer (some ⟨s, 0, none⟩))) w) := Lib.hid ⟨s, x, rfl, Below.refl _ _, rsT_move (fun k hk _ => ⟨rfl, .inl hk⟩) x s hx, hfx, rfl⟩
  have hs1 : Hid (s1 op fl (nmT x) = if x.f0 = 2 then nmT x else if op = x.f0 ∧ ngF fl = ngF x.f1 then nmT x else unT op fl (nmT x)) := Lib.hid (by unfold s1; rw [nm_f0, nm_f1])
  have hrr : ∃ c g o cS, w.cell? ⟨r, 0, none⟩ = some (.int .u8 op) ∧ w.cell? ⟨r, 1, none⟩ = some (.int .u16 fl) ∧ w.cell? ⟨r, 2, none⟩ = some (.slice (some ⟨g, o, none⟩) 1 cS) ∧ w.cell? ⟨g, o, none⟩ = some (.pointer (some ⟨c, 0, none⟩)) ∧
      (∃ cs t, w.heap[s]? = some (.cells cs t (0, 0))) ∧ (∃ cs t, w.heap[c]? = some (.cells cs t (0, 0))) ∧ (s = c → SimP w ok (unT op fl (nmT x)) (.returned (.pointer (some ⟨r, 0, none⟩))) w) := by
    have hr' := hr
    rw [RsT] at hr'
    obtain ⟨_, vS, v3, vR, bs, hbk, _, hS, hL⟩ := hr'
    rw [RsL] at hL
    obtain ⟨c, bs', rfl, hy, hL⟩ := hL
    have hL0 : bs' = [] := by simpa only [RsL] using hL
    subst hL0
    obtain ⟨A, cS, rfl, _, _, h3⟩ := hS
    obtain ⟨g, o, rfl, _, hc⟩ := h3 (by simp)
    refine ⟨c, g, o, cS, (blk_cell hbk 0).trans rfl, (blk_cell hbk 1).trans rfl, (blk_cell hbk 2).trans rfl, hc 0 _ rfl, ?_, ?_, fun e => ?_⟩
    · obtain ⟨xop, xfl, xrs, xm0, xm1, xcp, xnm, xts⟩ := x
      rw [RsT] at hx
      obtain ⟨_, _, _, _, _, hbx, _⟩ := hx
      exact ⟨_, _, hbx⟩
    · obtain ⟨xop, xfl, xrs, xm0, xm1, xcp, xnm, xts⟩ := y
      rw [RsT] at hy
      obtain ⟨_, _, _, _, _, hbx, _⟩ := hy
      exact ⟨_, _, hbx⟩
    subst e
    obtain rfl := rsT_inj x y s hx hy
    exact ⟨r, _, rfl, Below.refl _ _, rsT_move (fun k hk _ => ⟨rfl, .inl hk⟩) _ r hr, hfr, nm_un ho _ _ _ _ _ _ _⟩
  obtain ⟨c, g, o, cS, r0, r1, r2, r3, ⟨_, _, hks⟩, ⟨_, _, hkc⟩, hrc⟩ := hrr
  have HRC := Lib.hid hrc
  have hcc : ∃ xop xfl, x.f0 = xop ∧ x.f1 = xfl ∧ w.cell? ⟨s, 0, none⟩ = some (.int .u8 xop) ∧ w.cell? ⟨s, 1, none⟩ = some (.int .u16 xfl) := by
    obtain ⟨xop, xfl, xrs, xm0, xm1, xcp, xnm, xts⟩ := x
    rw [RsT] at hx
    obtain ⟨_, vS, v3, vR, bs, hbk, _, _, _⟩ := hx
    exact ⟨xop, xfl, rfl, rfl, (blk_cell hbk 0).trans rfl, (blk_cell hbk 1).trans rfl⟩
  obtain ⟨xop, xfl, e0, e1, c0, c1⟩ := hcc
  rw [e0, e1] at hs1
  clear hx hfx e0 e1 hr hfr hrc
  generalize nmT x = z at *
  generalize hR : s1 op fl z = R at *
  clear hR
  by_cases h2 : xop = 2
  · have hb2 : (xop == 2) = true := by simpa using h2
    have HR : Hid (R = z) := Lib.hid (by rw [hs1.out, if_pos h2])
    clear h2
    go_enter Try.func43, Try.ntmps43
    go_wp2_with fail
    go_ret
    rw [HR.out]; exact HS.out
  have hb2 : (xop == 2) = false := by simpa using h2
  by_cases hsc : s = c
  · have H1 := Lib.hid (HRC.out hsc)
    subst hsc
    have hq := eql_same w s
    clear hks hkc
    by_cases h3 : op = xop
    · by_cases h4 : ngF fl = ngF xfl
      · have hb4 : (bits BinOp.and IntKind.u16 fl 32 == bits BinOp.and IntKind.u16 xfl 32) = true := by simpa [ngF] using h4
        have HR : Hid (R = z) := Lib.hid (by rw [hs1.out, if_neg h2, if_pos ⟨h3, h4⟩])
        have hb3 : (op == xop) = true := by simpa using h3
        clear h2 h3 h4
        go_enter Try.func43, Try.ntmps43
        go_wp2_with fail
        go_ret
        rw [HR.out]; exact HS.out
      · have hb4 : (bits BinOp.and IntKind.u16 fl 32 == bits BinOp.and IntKind.u16 xfl 32) = false := by simpa [ngF] using h4
        have HR : Hid (R = unT op fl z) := Lib.hid (by rw [hs1.out, if_neg h2, if_neg (fun h => h4 h.2)])
        have hb3 : (op == xop) = true := by simpa using h3
        clear h2 h3 h4
        go_enter Try.func43, Try.ntmps43
        go_wp2_with fail
        go_ret
        rw [HR.out]; exact H1.out
    · have HR : Hid (R = unT op fl z) := Lib.hid (by rw [hs1.out, if_neg h2, if_neg (fun h => h3 h.1)])
      have hb3 : (op == xop) = false := by simpa using h3
      clear h2 h3
      go_enter Try.func43, Try.ntmps43
      go_wp2_with fail
      go_ret
      rw [HR.out]; exact H1.out
  · have hq := eql_other w hks hkc hsc
    clear hks hkc
    by_cases h3 : op = xop
    · by_cases h4 : ngF fl = ngF xfl
      · have hb4 : (bits BinOp.and IntKind.u16 fl 32 == bits BinOp.and IntKind.u16 xfl 32) = true := by simpa [ngF] using h4
        have HR : Hid (R = z) := Lib.hid (by rw [hs1.out, if_neg h2, if_pos ⟨h3, h4⟩])
        have hb3 : (op == xop) = true := by simpa using h3
        clear h2 h3 h4
        go_enter Try.func43, Try.ntmps43
        go_wp2_with fail
        go_ret
        rw [HR.out]; exact HS.out
      · have hb4 : (bits BinOp.and IntKind.u16 fl 32 == bits BinOp.and IntKind.u16 xfl 32) = false := by simpa [ngF] using h4
        have HR : Hid (R = unT op fl z) := Lib.hid (by rw [hs1.out, if_neg h2, if_neg (fun h => h4 h.2)])
        have hb3 : (op == xop) = true := by simpa using h3
        clear h2 h3 h4
        go_enter Try.func43, Try.ntmps43
        go_wp2_with fail
        go_ret
        rw [HR.out]; exact HN.out
    · have HR : Hid (R = unT op fl z) := Lib.hid (by rw [hs1.out, if_neg h2, if_neg (fun h => h3 h.1)])
      have hb3 : (op == xop) = false := by simpa using h3
      clear h2 h3
      go_enter Try.func43, Try.ntmps43
      go_wp2_with fail
      go_ret
      rw [HR.out]; exact HN.out
end Go.Proofs.Ytholpemmakdglaa.PFnSySimplifyTwice
namespace Go.Proofs.Ytholpemmakdglaa.PFnSySimplifyTwice
open Go.RowKit Go.Proofs.YtholpemmakdglaaW.PrintWords Go.Proofs.YtholpemmakdglaaW.PrintLast Go.Proofs.YtholpemmakdglaaW.PrintMore
set_option linter.unusedVariables false
set_option linter.unusedSimpArgs false
/-- Simplify is known at all smaller trees. -/
def SimI (N : Nat) : Prop := ∀ (t : Tr) (b : Nat) (ok : Nat → Prop) (w : World), ncT t ≤ N → RsT w ok b t → fnT t → snT t →
  Calls Try.prog 32 #[.pointer (some ⟨b, 0, none⟩)] w (SimP w ok (simT t))
theorem SimP.widen {w w1 w2 : World} {ok ok1 : Nat → Prop} {r : Tr} {e : Ending} (h : SimP w1 ok1 r e w2) (hb : Below w.heap.size w w1) (hok : ∀ k, ok1 k → ok k ∨ w.heap.size ≤ k) : SimP w ok r e w2 := by
  obtain ⟨b, t, he, h1, h2, h3, h4⟩ := h
  refine ⟨b, t, he, hb.trans (h1.mono hb.size), rsT_move (fun k hk _ => ⟨rfl, ?_⟩) t b h2, h3, h4⟩
  rcases hk with hk | hk
  · exact hok k hk
  · exact .inr (Nat.le_trans hb.size hk)
theorem SimP.same {w : World} {ok : Nat → Prop} {b : Nat} {t : Tr} (h : RsT w ok b t) (hf : fnT t) : SimP w ok (nmT t) (.returned (.pointer (some ⟨b, 0, none⟩))) w :=
  ⟨b, t, rfl, Below.refl _ _, rsT_move (fun k hk _ => ⟨rfl, .inl hk⟩) t b h, hf, rfl⟩
set_option maxRecDepth 100000 in
set_option maxHeartbeats 4000000 in
theorem simp_leaf (op fl : Int) (rs : List Int) (m0 m1 cp : Int) (nm : ByteArray) (b : Nat) (ok : Nat → Prop) (w : World) (ho : op ≤ 12)
    (hr : RsT w ok b ⟨op, fl, rs, m0, m1, cp, nm, []⟩) (hf : fnT ⟨op, fl, rs, m0, m1, cp, nm, []⟩) :
    Calls Try.prog 32 #[.pointer (some ⟨b, 0, none⟩)] w (SimP w ok (simT ⟨op, fl, rs, m0, m1, cp, nm, []⟩)) := by
  have HS := Lib.hid (SimP.same hr hf)
  have he : simT ⟨op, fl, rs, m0, m1, cp, nm, []⟩ = nmT ⟨op, fl, rs, m0, m1, cp, nm, []⟩ := by
    rw [simT, nmT, simL, nmL]
    unfold simN
    rw [if_neg (show ¬ (op = 14 ∨ op = 15 ∨ op = 16) by omega), if_neg (show ¬ op = 17 by omega)]
  rw [he]
  rw [RsT] at hr
  obtain ⟨_, vS, v3, vR, bs, hbk, _, _, _⟩ := hr
  have c0 : w.cell? ⟨b, 0, none⟩ = some (.int .u8 op) := (blk_cell hbk 0).trans rfl
  have t13 : (op == 13) = false := by simpa using (show ¬ op = 13 by omega)
  have t18 : (op == 18) = false := by simpa using (show ¬ op = 18 by omega)
  have t19 : (op == 19) = false := by simpa using (show ¬ op = 19 by omega)
  have t14 : (op == 14) = false := by simpa using (show ¬ op = 14 by omega)
  have t15 : (op == 15) = false := by simpa using (show ¬ op = 15 by omega)
  have t16 : (op == 16) = false := by simpa using (show ¬ op = 16 by omega)
  have t17 : (op == 17) = false := by simpa using (show ¬ op = 17 by omega)
  clear hbk ho he hf
  generalize nmT ⟨op, fl, rs, m0, m1, cp, nm, []⟩ = R at *
  go_enter Try.func32, Try.ntmps32
  go_wp2_with fail
  go_ret
  exact HS.out
set_option maxRecDepth 100000 in
set_option maxHeartbeats 4000000 in
theorem simp_loop (N : Nat) (IH : Hid (SimI N)) (op fl : Int) (rs : List Int) (m0 m1 cp : Int) (nm : ByteArray) (x : Tr) (b : Nat) (ok : Nat → Prop) (w : World) (hN : ncT x ≤ N) (ho : op = 14 ∨ op = 15 ∨ op = 16)
    (hr : RsT w ok b ⟨op, fl, rs, m0, m1, cp, nm, [x]⟩) (hf : fnT ⟨op, fl, rs, m0, m1, cp, nm, [x]⟩) (hs : snT x) :
    Calls Try.prog 32 #[.pointer (some ⟨b, 0, none⟩)] w (SimP w ok (simT ⟨op, fl, rs, m0, m1, cp, nm, [x]⟩)) := by
  have he : Hid (simT ⟨op, fl, rs, m0, m1, cp, nm, [x]⟩ = s1 op fl (simT x)) := Lib.hid (by
    rw [simT, simL, simL]
    unfold simN
    rw [if_pos ho, hdT])
  have HR := Lib.hid hr
  have HF := Lib.hid hf
  rw [RsT] at hr
  obtain ⟨_, vS, v3, vR, bs, hbk, _, hS, hL⟩ := hr
  rw [RsL] at hL
  obtain ⟨c, bs', rfl, hx, hL⟩ := hL
  have hL0 : bs' = [] := by simpa only [RsL] using hL
  subst hL0
  rw [fnT, fnL] at hf
  obtain ⟨⟨_, _, hf0, hf1⟩, _, _, hfx, _⟩ := hf
  obtain ⟨A, cS, rfl, _, _, h3⟩ := hS
  obtain ⟨g, o, rfl, _, hc⟩ := h3 (by simp)
  have c0 : w.cell? ⟨b, 0, none⟩ = some (.int .u8 op) := (blk_cell hbk 0).trans rfl
  have c1 : w.cell? ⟨b, 1, none⟩ = some (.int .u16 fl) := (blk_cell hbk 1).trans rfl
  have c2 : w.cell? ⟨b, 2, none⟩ = some (.slice (some ⟨g, o, none⟩) 1 cS) := (blk_cell hbk 2).trans rfl
  have c3 : w.cell? ⟨g, o, none⟩ = some (.pointer (some ⟨c, 0, none⟩)) := hc 0 _ rfl
  have CI := Lib.hid (IH.out x c ok w hN hx hfx hs)
  have HO := Lib.hid ho
  have t13 : (op == 13) = false := by simpa using (show ¬ op = 13 by omega)
  have t18 : (op == 18) = false := by simpa using (show ¬ op = 18 by omega)
  have t19 : (op == 19) = false := by simpa using (show ¬ op = 19 by omega)
  clear hbk hx hfx hs hc h3 hL IH
  rcases ho with rfl | rfl | rfl
  all_goals
    go_enter Try.func32, Try.ntmps32
    go_upto_region 25 with (go_at_call 32; refine CI.out.mono ?_; rintro e w1 ⟨s, x1, rfl, hb1, hx1, hfx1, hnm1⟩)
    have HB1 := Lib.hid hb1
    have d0 := Gb.cellB hb1 c0
    have d1 := Gb.cellB hb1 c1
    have HRB : Hid (RsT w1 (fun k => ok k ∨ w.heap.size ≤ k) b ⟨_, fl, rs, m0, m1, cp, nm, [x]⟩) := Lib.hid (rsT_move (fun k hk hlt => ⟨hb1.block k hlt, .inl hk⟩) _ b HR.out)
    have HX := Lib.hid hx1
    clear hb1 hx1 c0 c1 c2 c3
    refine Mem.wp_region_midk 10 1 (fun w' => w'.cell? ⟨b, 0, none⟩ = some (.int .u8 _) ∧ w'.cell? ⟨b, 1, none⟩ = some (.int .u16 fl)) (by kernel_rfl) (by kernel_rfl) ⟨d0, d1⟩ ?_
    simp only [List.take_succ_cons, List.take_zero, List.drop_succ_cons, List.drop_zero]
    iterate 10
      refine Mem.wpHeld_step (v := ?_) (by rfl) ?_ ?_
      rotate_left
      · intro w hSw; (try dsimp only at hSw); go_simp; try with_reducible rfl
      try simp only [Act.put, List.setIfInBounds_toArray, List.set_cons_zero, List.set_cons_succ]
    refine Mem.wpHeld_nil ?_
    simp only [Mem.midK]
    have BD : Below w1.heap.size w1 { w1 with drawn := w1.drawn + 1 } := (Below.refl _ _).drew
    have CS := Lib.hid (simplify1_re _ fl s b x1 x rs m0 m1 cp nm _ { w1 with drawn := w1.drawn + 1 } (by omega) hf0 hf1 (rsT_move (ok' := fun k => ok k ∨ w.heap.size ≤ k) (fun k hk hlt => ⟨BD.block k hlt, hk⟩) _ s HX.out) hfx1 (rsT_move (ok' := fun k => ok k ∨ w.heap.size ≤ k) (fun k hk hlt => ⟨BD.block k hlt, hk⟩) _ b HRB.out) HF.out)
    rw [hnm1] at CS
    have HBD := Lib.hid (HB1.out.trans (BD.mono HB1.out.size))
    clear BD
    refine wpOp_step rfl ?_
    intro K' hK
    go_simp
    go_wp2_with (go_at_call 43; refine CS.out.mono ?_; rintro e w3 ⟨b3, t3, rfl, hb3, ht3, hf3, hn3⟩)
    have HE := Lib.hid (SimP.widen (w := w) (w1 := { w1 with drawn := w1.drawn + 1 }) (ok := ok) (ok1 := fun k => ok k ∨ w.heap.size ≤ k) ⟨b3, t3, rfl, hb3, ht3, hf3, hn3⟩ HBD.out (fun k hk => hk))
    have e0 := Gb.cellB hb3 (show World.cell? { w1 with drawn := w1.drawn + 1 } _ = _ from d0)
    have e1 := Gb.cellB hb3 (show World.cell? { w1 with drawn := w1.drawn + 1 } _ = _ from d1)
    refine ⟨⟨e0, e1⟩, ?_⟩
    clear ht3 hn3 hf3 hb3 e0 e1
    go_wp2_with fail
    refine NoPanic.normal ?_
    go_wp2
    go_ret
    rw [he.out]
    exact HE.out
end Go.Proofs.Ytholpemmakdglaa.PFnSySimplifyTwice
namespace Go.Proofs.Ytholpemmakdglaa.PFnSySimplifyTwice
open Go.RowKit Go.Proofs.YtholpemmakdglaaW.PrintWords Go.Proofs.YtholpemmakdglaaW.PrintLast Go.Proofs.YtholpemmakdglaaW.PrintMore
set_option linter.unusedVariables false
set_option linter.unusedSimpArgs false
/-- What a walk over a repeat wants to know. -/
theorem rep_open {N : Nat} (IH : Hid (SimI N)) {fl : Int} {rs : List Int} {m0 m1 cp : Int} {nm : ByteArray} {x : Tr} {b : Nat} {ok : Nat → Prop} {w : World} (hN : ncT x ≤ N)
    (hr : RsT w ok b ⟨17, fl, rs, m0, m1, cp, nm, [x]⟩) (hf : fnT ⟨17, fl, rs, m0, m1, cp, nm, [x]⟩) (hs : snT x) :
    ∃ c g o cS, w.cell? ⟨b, 0, none⟩ = some (.int .u8 17) ∧ w.cell? ⟨b, 1, none⟩ = some (.int .u16 fl) ∧ w.cell? ⟨b, 2, none⟩ = some (.slice (some ⟨g, o, none⟩) 1 cS) ∧ w.cell? ⟨b, 7, none⟩ = some (.int .i64 m0) ∧ w.cell? ⟨b, 8, none⟩ = some (.int .i64 m1) ∧
      w.cell? ⟨g, o, none⟩ = some (.pointer (some ⟨c, 0, none⟩)) ∧ Hid (Calls Try.prog 32 #[.pointer (some ⟨c, 0, none⟩)] w (SimP w ok (simT x))) ∧ 0 ≤ fl ∧ fl ≤ 65535 := by
  rw [RsT] at hr
  obtain ⟨_, vS, v3, vR, bs, hbk, _, hS, hL⟩ := hr
  rw [RsL] at hL
  obtain ⟨c, bs', rfl, hx, hL⟩ := hL
  have hL0 : bs' = [] := by simpa only [RsL] using hL
  subst hL0
  rw [fnT, fnL] at hf
  obtain ⟨⟨_, _, hf0, hf1⟩, _, _, hfx, _⟩ := hf
  obtain ⟨A, cS, rfl, _, _, h3⟩ := hS
  obtain ⟨g, o, rfl, _, hc⟩ := h3 (by simp)
  exact ⟨c, g, o, cS, (blk_cell hbk 0).trans rfl, (blk_cell hbk 1).trans rfl, (blk_cell hbk 2).trans rfl, (blk_cell hbk 7).trans rfl, (blk_cell hbk 8).trans rfl, hc 0 _ rfl, Lib.hid (IH.out x c ok w hN hx hfx hs), hf0, hf1⟩
theorem sim_rep (fl : Int) (rs : List Int) (m0 m1 cp : Int) (nm : ByteArray) (x : Tr) : simT ⟨17, fl, rs, m0, m1, cp, nm, [x]⟩ = repF fl m0 m1 (simT x) := by
  rw [simT, simL, simL]
  unfold simN
  rw [if_neg (by omega), if_pos rfl, hdT]
/-- A new node without parts. -/
theorem new_bare {op : Int} {ok : Nat → Prop} {w : World} (ho : op = 1 ∨ op = 2) : SimP w ok ⟨op, 0, [], 0, 0, 0, ByteArray.empty, []⟩ (.returned (.pointer (some ⟨w.heap.size, 0, none⟩))) (w.alloc (.cells (ndC op 0 (.slice none 0 0) (.pointer none) (.slice none 0 0) 0 0 0 ⟨#[]⟩) 69)) := by
  refine ⟨w.heap.size, ⟨op, 0, [], 0, 0, 0, ⟨#[]⟩, []⟩, rfl, (Below.refl _ _).alloc (Nat.le_refl _) _, ?_, ?_, ?_⟩
  · rw [RsT]
    exact ⟨.inr (Nat.le_refl _), _, _, _, [], Mem.blk_new _ _, ⟨none, 0, rfl, by simp, by simp, fun h => by simp at h⟩, ⟨none, 0, rfl, by simp, by simp, fun h => by simp at h⟩, by rw [RsL]⟩
  · rw [fnT, fnL]
    exact ⟨by omega, by simp [Room], by simp [Room], trivial⟩
  · rw [nmT, nmN, nmL]
    simp only [if_neg (show ¬ (op = 3 ∨ op = 4) by omega), if_neg (show ¬ op = 17 by omega), if_neg (show ¬ op = 13 by omega)]
set_option maxRecDepth 100000 in
set_option maxHeartbeats 4000000 in
theorem simp_zero (N : Nat) (IH : Hid (SimI N)) (fl : Int) (rs : List Int) (cp : Int) (nm : ByteArray) (x : Tr) (b : Nat) (ok : Nat → Prop) (w : World) (hN : ncT x ≤ N)
    (hr : RsT w ok b ⟨17, fl, rs, 0, 0, cp, nm, [x]⟩) (hf : fnT ⟨17, fl, rs, 0, 0, cp, nm, [x]⟩) (hs : snT x) :
    Calls Try.prog 32 #[.pointer (some ⟨b, 0, none⟩)] w (SimP w ok (simT ⟨17, fl, rs, 0, 0, cp, nm, [x]⟩)) := by
  obtain ⟨c, g, o, cS, c0, c1, c2, c7, c8, c3, CI, hf0, hf1⟩ := rep_open IH hN hr hf hs
  have HE := Lib.hid (new_bare (op := 2) (ok := ok) (w := w) (.inr rfl))
  rw [sim_rep]
  have he : repF fl 0 0 (simT x) = emT := by unfold repF; rw [if_pos ⟨rfl, rfl⟩]
  rw [he]
  clear hr hf hs CI IH he
  go_enter Try.func32, Try.ntmps32
  go_wp2_with fail
  go_ret
  exact HE.out
set_option maxRecDepth 100000 in
set_option maxHeartbeats 4000000 in
theorem simp_one (N : Nat) (IH : Hid (SimI N)) (fl : Int) (rs : List Int) (cp : Int) (nm : ByteArray) (x : Tr) (b : Nat) (ok : Nat → Prop) (w : World) (hN : ncT x ≤ N)
    (hr : RsT w ok b ⟨17, fl, rs, 1, 1, cp, nm, [x]⟩) (hf : fnT ⟨17, fl, rs, 1, 1, cp, nm, [x]⟩) (hs : snT x) :
    Calls Try.prog 32 #[.pointer (some ⟨b, 0, none⟩)] w (SimP w ok (simT ⟨17, fl, rs, 1, 1, cp, nm, [x]⟩)) := by
  obtain ⟨c, g, o, cS, c0, c1, c2, c7, c8, c3, CI, hf0, hf1⟩ := rep_open IH hN hr hf hs
  rw [sim_rep]
  have he : repF fl 1 1 (simT x) = simT x := by unfold repF; simp
  rw [he]
  clear hr hf hs IH he
  go_enter Try.func32, Try.ntmps32
  go_wp2_with (go_at_call 32; refine CI.out.mono ?_; rintro e w1 ⟨s, x1, rfl, hb1, hx1, hfx1, hnm1⟩; have HE : Hid (SimP w ok (simT x) (.returned (.pointer (some ⟨s, 0, none⟩))) w1) := Lib.hid (⟨s, x1, rfl, hb1, hx1, hfx1, hnm1⟩); have d0 := Gb.cellB hb1 c0; have d1 := Gb.cellB hb1 c1; have d7 := Gb.cellB hb1 c7; have d8 := Gb.cellB hb1 c8; clear hb1 hx1 hfx1 hnm1 c0 c1 c2 c3 c7 c8)
  go_ret
  exact HE.out
set_option maxRecDepth 100000 in
set_option maxHeartbeats 4000000 in
theorem simp_few (N : Nat) (IH : Hid (SimI N)) (fl : Int) (rs : List Int) (m0 cp : Int) (nm : ByteArray) (x : Tr) (b : Nat) (ok : Nat → Prop) (w : World) (hN : ncT x ≤ N) (hm : m0 = 0 ∨ m0 = 1)
    (hr : RsT w ok b ⟨17, fl, rs, m0, -1, cp, nm, [x]⟩) (hf : fnT ⟨17, fl, rs, m0, -1, cp, nm, [x]⟩) (hs : snT x) :
    Calls Try.prog 32 #[.pointer (some ⟨b, 0, none⟩)] w (SimP w ok (simT ⟨17, fl, rs, m0, -1, cp, nm, [x]⟩)) := by
  obtain ⟨c, g, o, cS, c0, c1, c2, c7, c8, c3, CI, hf0, hf1⟩ := rep_open IH hN hr hf hs
  rw [sim_rep]
  have he : Hid (∃ op : Int, (op = 14 ∨ op = 15 ∨ op = 16) ∧ repF fl m0 (-1) (simT x) = s1 op fl (simT x) ∧ (m0 = 0 → op = 14) ∧ (m0 = 1 → op = 15)) := Lib.hid (by
    rcases hm with rfl | rfl
    · exact ⟨14, by omega, by unfold repF; simp, fun _ => rfl, fun h => by omega⟩
    · exact ⟨15, by omega, by unfold repF; simp, fun h => by omega, fun _ => rfl⟩)
  obtain ⟨op, ho, he, h14, h15⟩ := he.out
  rw [he]
  clear hr hf hs IH he
  rcases hm with rfl | rfl
  · obtain rfl := h14 rfl
    clear h14 h15 ho
    go_enter Try.func32, Try.ntmps32
    go_wp2_with (first
      | (go_at_call 32; refine CI.out.mono ?_; rintro e w1 ⟨s, x1, rfl, hb1, hx1, hfx1, hnm1⟩; have HB1 := Lib.hid hb1; have CS := Lib.hid (simplify1_nil 14 fl s x1 _ w1 (by omega) hf0 hf1 hx1 hfx1); rw [hnm1] at CS; have d0 := Gb.cellB hb1 c0; have d1 := Gb.cellB hb1 c1; have d7 := Gb.cellB hb1 c7; have d8 := Gb.cellB hb1 c8; clear hb1 hx1 hfx1 hnm1 c0 c1 c2 c3 c7 c8)
      | (go_at_call 43; refine CS.out.mono ?_; rintro e w3 ⟨b3, t3, rfl, hb3, ht3, hf3, hn3⟩; have HE := Lib.hid (SimP.widen (w := w) (ok := ok) ⟨b3, t3, rfl, hb3, ht3, hf3, hn3⟩ HB1.out (fun k hk => hk)); clear hb3 ht3 hf3 hn3))
    go_ret
    exact HE.out
  · obtain rfl := h15 rfl
    clear h14 h15 ho
    go_enter Try.func32, Try.ntmps32
    go_wp2_with (first
      | (go_at_call 32; refine CI.out.mono ?_; rintro e w1 ⟨s, x1, rfl, hb1, hx1, hfx1, hnm1⟩; have HB1 := Lib.hid hb1; have CS := Lib.hid (simplify1_nil 15 fl s x1 _ w1 (by omega) hf0 hf1 hx1 hfx1); rw [hnm1] at CS; have d0 := Gb.cellB hb1 c0; have d1 := Gb.cellB hb1 c1; have d7 := Gb.cellB hb1 c7; have d8 := Gb.cellB hb1 c8; clear hb1 hx1 hfx1 hnm1 c0 c1 c2 c3 c7 c8)
      | (go_at_call 43; refine CS.out.mono ?_; rintro e w3 ⟨b3, t3, rfl, hb3, ht3, hf3, hn3⟩; have HE := Lib.hid (SimP.widen (w := w) (ok := ok) ⟨b3, t3, rfl, hb3, ht3, hf3, hn3⟩ HB1.out (fun k hk => hk)); clear hb3 ht3 hf3 hn3))
    go_ret
    exact HE.out
end Go.Proofs.Ytholpemmakdglaa.PFnSySimplifyTwice
